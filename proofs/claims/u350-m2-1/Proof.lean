import JvmDerived
import JvmDerived.Pilot.@@N@@Statement
import JvmDerived.Pilot.@@N@@Code
set_option linter.unusedVariables false
set_option linter.unusedSimpArgs false
set_option maxRecDepth 65536
set_option maxHeartbeats 400000000
@@BLOCK:NumsL.lean.txt@@
namespace Jvm.Pilot.@@N@@
open Jvm Jvm.ClassFile Sem Op Lib Jvm.Free Jvm.Stand Jvm.LawKit Jvm.RoadKit Bundle Jvm.Pilot.@@N@@.Jvm.D
abbrev cc (x : Int32) : Int32 := x.toUInt32.toUInt16.toUInt32.toInt32
abbrev bb (x : Int32) : Int32 := x.toInt8.toInt32
abbrev PayOf (F : State → Outcome → State → List Loc → Nat → Nat → Prop) (l : Launch) (Z : State) (y : MethodName) (ws : List Jvm.Cond) (bytes : ByteArray) (ml : Nat) (rt : Option FieldType) (as' : Array Value) (h0 : Heap) (rm : Room) (Q : Option Value → Heap → List Loc → Prop) : Prop :=
  MetFree l y (head1 (Jvm.Cond.code y bytes ml rt :: ws) rm) (fun a U => a = as' ∧ Z.Warmed39 U.vm ∧ U.heap = h0) (fun _ _ _ _ _ => True) (fun _ U o U' => ∃ v L, o = .returned v ∧ Q v U'.heap L ∧ F U o U' L rm.cells rm.slots)
abbrev Pay := PayOf FrameEnd
abbrev PayW := PayOf ReturnedEndW
theorem own_body {F : State → Outcome → State → List Loc → Nat → Nat → Prop} {l : Launch} {Z : State} {y : MethodName} {ws : List Jvm.Cond} {bytes : ByteArray} {ml : Nat} {rt : Option FieldType} {as' : Array Value} {h0 : Heap} {rm : Room} {Q : Option Value → Heap → List Loc → Prop} (hp : plainFor y = true) {L0 : Array Slot} (hent : ∀ m, entryFrame m as' ml = mkF m 0 L0 [])
    (body : ∀ (p : Program) (e : Env) (s : State) (m : MethodId) (below : List Frame) (meth : Method) (c : Code) (s₁ : State), meth.sig.returnType = rt → meth.locks = false → p.tables.exec = Jvm.exec → c.code = bytes → c.maxLocals = ml → Z.Warmed39 s.vm → s.vm.findClass y.cls = some m.cls → meth.name = y.name → Stand p l e rm s m as' below meth c s₁ [] 0 0 → s₁.heap = h0 →
      ∃ s₂ o, Steps p.tables e below (s₁.setTop (mkF m 0 L0 [])) s₂ ∧ s₂.status = .running ∧ Ended s₂ below o ∧ ∃ v L, o = .returned v ∧ Q v s₂.heap L ∧ F s o s₂ L rm.cells rm.slots) : PayOf F l Z y ws bytes ml rt as' h0 rm Q := by
  refine MetFree.of_bodySF hp hisR ?_
  intro p e s m args below meth c s₁ Bd hml hP hK
  obtain ⟨rfl, hZ, hh⟩ := hP
  obtain ⟨s₂, o, st, r⟩ := body p e s m below meth c s₁ Bd.returns Bd.notSynchronized Bd.exec Bd.bytes hml hZ (findClass_of_methodNamed Bd.named) (name_of_methodNamed Bd.named Bd.method).1 (Stand.of_body Bd) (by rw [← hh, Bd.state]; rfl)
  exact ⟨s₂, o, castTop (hent m) st, r⟩
abbrev HW (Z : State) (a0 : Array Value) : Prop := ∀ d ∈ tables_1, d.before a0 Z = true
abbrev vi (x : Int32) : Slot := .val (.int x)
abbrev vl (x : Int64) : Slot := .val (.long x)
abbrev va (x : Addr) : Slot := .val (.ref x)
abbrev uu : Slot := .unset
abbrev ss : Slot := .second
theorem ww {Z : State} {a0 : Array Value} (hw : ∀ d ∈ tables_1, d.before a0 Z = true) (i : Nat) {d : Jvm.Cond} (h : tables_1[i]? = some d) : d.before a0 Z = true := hw _ (List.mem_of_getElem? h)
theorem own_old {Z : State} {n0 : Nat} {h : Heap} (O : Old Z n0 h) : n0 ≤ h.size := O.1 ▸ O.2.1
theorem own_lc_ltT {x y : Int64} (h : x < y) : ifCond.holds .lt (lcmpW x y) = true ∧ ifCond.holds .ge (lcmpW x y) = false := by
  have q : lcmpW x y < 0 := by rw [lcW]; exact (lc_lt x y).mpr h
  exact ⟨(if0 _ _).trans (tlt q).1, (if0 _ _).trans (tlt q).2.1⟩
theorem own_lc_ltF {x y : Int64} (h : ¬ x < y) : ifCond.holds .lt (lcmpW x y) = false ∧ ifCond.holds .ge (lcmpW x y) = true := by
  have q : ¬ lcmpW x y < 0 := by rw [lcW]; exact fun z => h ((lc_lt x y).mp z)
  exact ⟨(if0 _ _).trans (flt q).1, (if0 _ _).trans (flt q).2.1⟩
theorem own_lc_gtT {x y : Int64} (h : y < x) : ifCond.holds .gt (lcmpW x y) = true ∧ ifCond.holds .le (lcmpW x y) = false := by
  have q : 0 < lcmpW x y := by rw [lcW]; exact (lc_gt x y).mpr h
  exact ⟨(if0 _ _).trans (tlt q).2.2.1, (if0 _ _).trans (tlt q).2.2.2⟩
theorem own_lc_gtF {x y : Int64} (h : ¬ y < x) : ifCond.holds .gt (lcmpW x y) = false ∧ ifCond.holds .le (lcmpW x y) = true := by
  have q : ¬ 0 < lcmpW x y := by rw [lcW]; exact fun z => h ((lc_gt x y).mp z)
  exact ⟨(if0 _ _).trans (flt q).2.2.1, (if0 _ _).trans (flt q).2.2.2⟩
theorem own_lc_eqT {x y : Int64} (h : x = y) : ifCond.holds .eq (lcmpW x y) = true ∧ ifCond.holds .ne (lcmpW x y) = false := by
  have q : lcmpW x y = 0 := by rw [lcW]; exact (lc_eq x y).mpr h
  exact ⟨(if0 _ _).trans (teq q).1, (if0 _ _).trans (teq q).2⟩
theorem own_lc_eqF {x y : Int64} (h : ¬ x = y) : ifCond.holds .eq (lcmpW x y) = false ∧ ifCond.holds .ne (lcmpW x y) = true := by
  have q : ¬ lcmpW x y = 0 := by rw [lcW]; exact fun z => h ((lc_eq x y).mp z)
  exact ⟨(if0 _ _).trans (feq q).1, (if0 _ _).trans (feq q).2⟩
theorem own_selp {y : MethodName} {s : State} {args : Array Value} {n : Nat} (hy : y.cls ≠ "java/lang/invoke/MethodHandle" ∧ y.cls ≠ "java/lang/invoke/VarHandle") (hins : (Jvm.Cond.instantiable y.cls n).before args s = true) (hpriv : (Jvm.Cond.privateMethod y).before args s = true) (hinst : (Jvm.Cond.instanceMethod y).before args s = true) : (Jvm.Cond.selects y.cls y y).before args s = true := by
  obtain ⟨c, k, hc, hk, -, hniab, -, -⟩ := Cond.instantiable_spec hins
  exact selects_self_of_private hc hk (Bool.or_eq_false_iff.mp hniab).1 (Cond.privateMethod_at hpriv) hinst hy
theorem own_rem (x k : Int32) (n : Int) (hk : k.toInt = n) (hx : 0 ≤ x.toInt) : (x % k).toInt = x.toInt % n := by
  rw [Int32.toInt_mod, hk, Int.tmod_eq_emod_of_nonneg hx]
theorem own_eqI {t : Term} {k : Int32} {args : Array Value} {Z : State} (h : (Jvm.Cond.eq t (Jvm.Term.int k)).value args Z none Z [] = some true) : t.eval args Z none [] Z = some (.int k) := by
  simp only [Cond.value, Term.eval] at h
  cases ht : t.eval args Z none [] Z with
  | none => simp [ht] at h
  | some v => cases v <;> simp [ht] at h ⊢; exact h
theorem own_ne0 {t : Term} {x : Int32} {args : Array Value} {Z : State} (e : t.eval args Z none [] Z = some (.int x)) (h : (Jvm.Cond.not (Jvm.Cond.eq t (Jvm.Term.int (0 : Int32)))).value args Z none Z [] = some true) : ¬ (x = (0 : Int32)) := by
  intro q
  subst q
  simp [Cond.value, Term.eval, e] at h
theorem own_arvStart {ty : FieldType} {Z : State} {args : Array Value} {t : Term} {a : Addr} {cl : Cell} {z : Int32} {vs : List Value} {dv : Value} (hf : Fit Z) (ev : t.eval args Z none [] Z = some (.ref a)) (A : Arr Z Z.heap a cl ty) (hl : (Term.length t).eval args Z none [] Z = some (.int z)) (hz : ¬ z < 0) (hn : z.toNatClampNeg = vs.length) (H : HasL cl 0 vs) : Arv Z Z.heap a cl.cls ty z vs dv := by
  have hq : cl.slots.size < 2 ^ 31 ∧ cl.slots.size.toInt32 = z := by
    have e := A.fin (Vm.Alike.refl _)
    simp only [Term.eval, ev, e, Option.bind_eq_bind, Option.bind_some] at hl
    by_cases q : cl.slots.size < 2 ^ 31
    · rw [if_pos q] at hl; exact ⟨q, Value.int.inj (Option.some.inj hl)⟩
    · rw [if_neg q] at hl; cases hl
  exact Arv.start hf A hq.1 hq.2 hz hn H
theorem own_nat (x : Int32) : x.toInt % 4294967296 = (x.toBitVec.toNat : Int) := by
  have h : x.toInt = x.toBitVec.toInt := rfl
  have q := x.toBitVec.isLt
  rw [h, BitVec.toInt_eq_toNat_cond]
  split <;> omega
theorem own_cc_toInt (x : Int32) : (cc x).toInt = x.toInt % 65536 := by
  have e : (cc x).toBitVec = (x.toBitVec.setWidth 16).setWidth 32 := rfl
  have h : (cc x).toInt = (cc x).toBitVec.toInt := rfl
  have n := own_nat x
  have q := x.toBitVec.isLt
  rw [h, e, BitVec.toInt_eq_toNat_cond, BitVec.toNat_setWidth, BitVec.toNat_setWidth]
  split <;> omega
theorem own_bb_toInt (x : Int32) : (bb x).toInt = (x.toInt + 128) % 256 - 128 := by
  have h : (bb x).toInt = x.toInt8.toInt := Int8.toInt_toInt32 _
  rw [h, Int32.toInt_toInt8, Int.bmod_def]
  split <;> omega
theorem own_ushr8 (x : Int32) : ((x.toUInt32 >>> ((8 : Int32) &&& 31).toUInt32).toInt32).toInt = x.toInt % 4294967296 / 256 := by
  have e : ((x.toUInt32 >>> ((8 : Int32) &&& 31).toUInt32).toInt32).toBitVec = x.toBitVec >>> 8 := rfl
  have h : ((x.toUInt32 >>> ((8 : Int32) &&& 31).toUInt32).toInt32).toInt = ((x.toUInt32 >>> ((8 : Int32) &&& 31).toUInt32).toInt32).toBitVec.toInt := rfl
  have n := own_nat x
  have q := x.toBitVec.isLt
  rw [h, e, BitVec.toInt_eq_toNat_cond, BitVec.toNat_ushiftRight, Nat.shiftRight_eq_div_pow]
  split <;> omega
def MirOf (Z : State) (C : String) (a : Addr) : Prop := ∃ (c : ClassId) (k : Class), Z.vm.findClass C = some c ∧ Z.vm.classes[c]? = some k ∧ k.mirror = some a
def OAv (Z : State) (h : Heap) (a : Addr) (k : ClassId) (C : String) (n : Int32) : Prop := Arv Z h a k (.object C) n [] .null ∧ Ovr Z k C
theorem OAv.ext {Z : State} {h h' : Heap} {a : Addr} {k : ClassId} {C : String} {n : Int32} (F : OAv Z h a k C n) (E : Ext h h') : OAv Z h' a k C n := ⟨F.1.ext E, F.2⟩
theorem OAv.other {Z : State} {h h' : Heap} {a b : Addr} {k : ClassId} {C : String} {n : Int32} {sl : Nat} {v : Value} (F : OAv Z h b k C n) (W : Wr h h' a sl v) (q : b ≠ a) : OAv Z h' b k C n := ⟨F.1.other W q, F.2⟩
theorem OAv.keep {Z : State} {h h' : Heap} {a : Addr} {k : ClassId} {C : String} {n : Int32} {ws : List Addr} (F : OAv Z h a k C n) (K : Keep h h' ws) (q : a ∉ ws) : OAv Z h' a k C n := ⟨F.1.keep K q, F.2⟩
theorem OAv.lt {Z : State} {h : Heap} {a : Addr} {k : ClassId} {C : String} {n : Int32} (F : OAv Z h a k C n) : a < h.size := F.1.lt
theorem own_nf {args : Array Value} {s : State} {C : String} {x y z : MethodName} (hc : z.cls = y.cls) (hsel : (Jvm.Cond.selects C x z).before args s = true) : NotFace s y := fun r0 h0 => by
  obtain ⟨c2, r2, m2, q1, q2, q3, q4, kP, hkP, hkPi⟩ := Cond.selects_spec hsel
  have e1 := findClass_of_methodNamed h0
  have e2 := findClass_of_methodNamed q3
  rw [hc] at e2
  have e3 : r0.cls = m2.cls := Option.some.inj (e1.symm.trans e2)
  exact ⟨kP, by rw [e3]; exact hkP, hkPi⟩
theorem own_faceRides {r o n d : String} (hro : r ≠ o) (hr : r ≠ "java/lang/invoke/MethodHandle" ∧ r ≠ "java/lang/invoke/VarHandle") {a a' : Array Value} {s U : State} (hal : s.vm.Alike U.vm) (h : (Jvm.Cond.interfaceMethod r o n d).before a s = true) : (Jvm.Cond.interfaceMethod r o n d).before a' U = true := by
  obtain ⟨c, k, m, hc, hk, hi, hf, hn⟩ := Cond.interfaceMethod_spec h
  obtain ⟨k0, hk0, hname⟩ := Vm.findClass_spec hc
  cases hk.symm.trans hk0
  have hpoly : ∀ y, signaturePolymorphic k y = false := fun y => by simp [signaturePolymorphic, hname, hr.1, hr.2]
  have hco := findClass_of_methodNamed hn
  obtain ⟨ok, hok, hno⟩ := Vm.findClass_spec hco
  have hnone : k.findMethod n d = none := by
    cases hfm : k.findMethod n d with
    | none => rfl
    | some i =>
      exfalso
      have h3 : m = ⟨c, i⟩ := Option.some.inj (hf.symm.trans (State.methodFound?_of_named (show s.methodNamed? ⟨r, n, d⟩ = some ⟨c, i⟩ by simp [State.methodNamed?, hc, hk, hfm]) hr))
      rw [h3] at hok
      cases hk.symm.trans hok
      exact hro (hname.symm.trans hno)
  obtain ⟨k', hk', he⟩ := hal.2.2 _ _ hk
  obtain ⟨ok', hok', -⟩ := hal.2.2 _ _ hok
  have hcU : U.vm.findClass r = some c := by rw [hal.findClass]; exact hc
  have hiU : k'.isInterface = true := by rw [he]; exact hi
  have hfU : U.methodFound? r n d = some m := State.methodFound?_faceFind hcU hk' hiU (by rw [he]; exact hpoly) (by rw [he]; exact hnone) (by rw [hal.faceFind]; exact State.faceFind_of_found hc hk hi hpoly hnone hf) hok'
  have hnU : U.methodNamed? ⟨o, n, d⟩ = some m := (State.methodNamed?_setVm (s := s) hal ⟨o, n, d⟩).trans hn
  simp [Cond.before, Cond.holds, Cond.value, hcU, hfU, hnU, hk', hiU]
theorem own_gclsI {p : Program} {l : Launch} {e : Env} {R : Room} {s : State} {m : MethodId} {args : Array Value} {below : List Frame} {meth : Method} {c : Code} {T : State} {locs : List Loc} {cells slots : Nat} {Z : State} {h : Heap} {a : Addr} (X : Stand p l e R s m args below meth c T locs cells slots) (hx : p.tables.exec = Jvm.exec) (hZ : Z.Warmed39 s.vm) {a0 : Array Value} {own C : String} {index count : Nat} {xi : MethodName} (hown : s.vm.findClass own = some m.cls)
    (w1 : (Jvm.Cond.methodLink own index xi).before a0 Z = true) (w2 : (Jvm.Cond.declares ⟨"java/lang/Object", "getClass", "()Ljava/lang/Class;"⟩).before a0 Z = true) (w3 : (Jvm.Cond.interfaceMethod xi.cls "java/lang/Object" xi.name xi.desc).before a0 Z = true) (w4 : (Jvm.Cond.selects C xi ⟨"java/lang/Object", "getClass", "()Ljava/lang/Class;"⟩).before a0 Z = true)
    (w5 : (Jvm.Cond.instanceMethod ⟨"java/lang/Object", "getClass", "()Ljava/lang/Class;"⟩).before a0 Z = true) (w6 : (Jvm.Cond.publicMethod ⟨"java/lang/Object", "getClass", "()Ljava/lang/Class;"⟩).before a0 Z = true) (w7 : (Jvm.Cond.unhidden C xi.name xi.desc).before a0 Z = true) (w8 : (Jvm.Cond.castable C xi.cls).before a0 Z = true) (w9 : (Jvm.Cond.native ⟨"java/lang/Object", "getClass", "()Ljava/lang/Class;"⟩).before a0 Z = true)
    (hxi : xi.cls ≠ "java/lang/invoke/MethodHandle" ∧ xi.cls ≠ "java/lang/invoke/VarHandle") (hxo : xi.cls ≠ "java/lang/Object") (hname : xi.name = "getClass") (hdesc : xi.desc = "()Ljava/lang/Class;") (eT : T.heap = h) (E : Exa Z h a C) {mr : Addr} (M : MirOf Z C mr)
    {g : JFrame} (hg : g.method = m) (hsize : g.locals.size = c.maxLocals) {rest : List Value} (hs : g.stack = .ref a :: rest) (hd : decode c.code g.pc = .ok (.invokeinterface index count, 5)) (hf : 1 ≤ R.frames) {W : Nat} (hW : 2 * g.monitorRoom + (rest.map fun v => v.category).sum ≤ W) (hl : W + (nativeFrameWords "java/lang/Object" "getClass" 1 + 11) ≤ R.locals) :
    ∃ T', Stand p l e R s m args below meth c T' locs cells slots ∧ T'.heap = h ∧ ∀ target, Steps p.tables e below (T'.setTop { g with pc := g.pc + 5, stack := .ref mr :: rest }) target → Steps p.tables e below (T.setTop g) target := by
  obtain ⟨cB, kB, i1, i2, i3⟩ := isOf hZ eT E
  obtain ⟨cc, kc, m1, m2, m3⟩ := M
  rw [hZ.alike.findClass] at i1
  cases i1.symm.trans m1
  obtain ⟨k', q, ek⟩ := hZ.alike.2.2 _ _ m2
  obtain ⟨vm', X', st⟩ := X.getClassOfI hx hown (mvT hZ w1) (mvT hZ w2) (own_faceRides hxo hxi hZ.alike w3) (mvT hZ w4) (mvT hZ w5) (mvT hZ w6) (mvT hZ w7) (mvT hZ w8) (mvT hZ w9) hxi hxo hname hdesc (by rw [hZ.alike.findClass]; exact m1) q i3 (by rw [ek]; exact m3) hg hsize hs hd hf (by omega)
  exact ⟨_, X', eT, st⟩
theorem own_ldcM {p : Program} {l : Launch} {e : Env} {R : Room} {s : State} {m : MethodId} {args : Array Value} {below : List Frame} {meth : Method} {c : Code} {T : State} {locs : List Loc} {cells slots : Nat} {Z : State} {h : Heap} (X : Stand p l e R s m args below meth c T locs cells slots) (hx : p.tables.exec = Jvm.exec) (hZ : Z.Warmed39 s.vm) {a0 : Array Value} {own C : String} {index : Nat} (hown : s.vm.findClass own = some m.cls)
    (w1 : (Jvm.Cond.classLink own index C).before a0 Z = true) (eT : T.heap = h) {mr : Addr} (M : MirOf Z C mr) {g : JFrame} (hg : g.method = m) (hd : decode c.code g.pc = .ok (.ldc index, 2)) :
    ∃ T', Stand p l e R s m args below meth c T' locs cells slots ∧ T'.heap = h ∧ ∀ target, Steps p.tables e below (T'.setTop { g with pc := g.pc + 2, stack := .ref mr :: g.stack }) target → Steps p.tables e below (T.setTop g) target := by
  obtain ⟨cc, kc, m1, m2, m3⟩ := M
  obtain ⟨k', q, ek⟩ := hZ.alike.2.2 _ _ m2
  have f1 : s.vm.findClass C = some cc := by rw [hZ.alike.findClass]; exact m1
  have f2 : k'.mirror = some mr := by rw [ek]; exact m3
  obtain ⟨vm', X', st⟩ := X.ldcMirror hx hown (mvT hZ w1) (a := mr) (by simp [Term.eval, f1, q, f2]) hg hd
  exact ⟨_, X', eT, st⟩
theorem own_size {ty : FieldType} {Z : State} {args : Array Value} {t : Term} {a : Addr} {cl : Cell} {z : Int32} (ev : t.eval args Z none [] Z = some (.ref a)) (A : Arr Z Z.heap a cl ty) (hl : (Term.length t).eval args Z none [] Z = some (.int z)) (hz : ¬ z < 0) : cl.slots.size = z.toNatClampNeg := by
  have hq : cl.slots.size < 2 ^ 31 ∧ cl.slots.size.toInt32 = z := by
    have e := A.fin (Vm.Alike.refl _)
    simp only [Term.eval, ev, e, Option.bind_eq_bind, Option.bind_some] at hl
    by_cases q : cl.slots.size < 2 ^ 31
    · rw [if_pos q] at hl; exact ⟨q, Value.int.inj (Option.some.inj hl)⟩
    · rw [if_neg q] at hl; cases hl
  rw [← hq.2]
  simp only [Int32.toNatClampNeg, len_toInt hq.1]
  rfl
theorem own_boxes {Z : State} {args : Array Value} {t : Term} {a : Addr} {c : Cell} {K : String} {D : Jvm.Cond} (et : ∀ idx, t.eval args Z none idx Z = some (.ref a)) (A : Arr Z Z.heap a c (.object K)) (h : (Jvm.Cond.all t (.and (.exactly (.elem t (.index 0)) K) D)).value args Z none Z [] = some true) : ∀ j : Int32, ¬ (j < 0 ∨ c.slots.size ≤ j.toNatClampNeg) → ∃ b : Addr, c.slots[j.toNatClampNeg]? = some (.ref b) := fun j hj => by
  have nn : ¬ j < 0 := fun x => hj (Or.inl x)
  obtain ⟨u1, -⟩ := and_e (Cond.all_elim (et []) (A.fin (Vm.Alike.refl _)) h j.toNatClampNeg (Nat.lt_of_not_le fun x => hj (Or.inr x)))
  obtain ⟨box, eb⟩ := exa_v u1
  exact ⟨box, (elem_f (et _) (idx_at nn) (A.fin (Vm.Alike.refl _)) nn).symm.trans eb⟩
theorem own_cin {x : Int32} (h1 : ¬ x < (-128 : Int32)) (h2 : ¬ (127 : Int32) < x) : ¬ ((x + (128 : Int32)) < 0 ∨ 256 ≤ (x + (128 : Int32)).toNatClampNeg) := by
  rw [Int32.lt_iff_toInt_lt] at h1 h2
  have e1 : (-128 : Int32).toInt = -128 := by decide
  have e2 : (127 : Int32).toInt = 127 := by decide
  have e3 : (128 : Int32).toInt = 128 := by decide
  have e0 : (0 : Int32).toInt = 0 := rfl
  have t := Jvm.Kit.i32_add (p := x) (q := (128 : Int32)) (by omega) (by omega)
  simp only [Int32.lt_iff_toInt_lt, Int32.toNatClampNeg, t, e0, e3]
  omega
theorem own_and15 (x : Int32) : ¬ (((15 : Int32) &&& x) < 0) ∧ ((15 : Int32) &&& x) < (16 : Int32) := by
  have c : ((15 : Int32) &&& x) = (x &&& (15 : Int32)) := Int32.and_comm _ _
  have t := Jvm.Kit.i32_mask x 15 (k := 4) (by decide) (by decide)
  have e0 : (0 : Int32).toInt = 0 := rfl
  have e16 : (16 : Int32).toInt = 16 := by decide
  rw [c]
  simp only [Int32.lt_iff_toInt_lt, t, e0, e16]
  omega
def CHO (Z : State) (n0 : Nat) (vm : Vm) (h : Heap) : Prop := CHv Z consts_1 vm h ∧ ∀ y, Bk Z consts_1 vm h y → y < n0
theorem CHO.keep {Z : State} {n0 : Nat} {vm : Vm} {h h' : Heap} (H : CHO Z n0 vm h) (K : Keep h h' []) : CHO Z n0 vm h' := by
  have q := CHv.keepStep K (fun _ hx => by cases hx) H.1
  exact ⟨q.1, fun y b => H.2 y (q.2 y b)⟩
theorem own_there {Z : State} {EL : List (String × Nat)} {vm : Vm} {h : Heap} {y : Addr} (B : Bk Z EL vm h y) : y < h.size := by
  obtain ⟨cell, hc⟩ := B.there
  exact (Array.getElem?_eq_some_iff.mp hc).1
theorem own_chStart {Z : State} (H : CHv Z consts_1 Z.vm Z.heap) : CHO Z Z.heap.size Z.vm Z.heap := ⟨H, fun _ b => own_there b⟩
abbrev PayE (n0 : Nat) (l : Launch) (Z : State) (y : MethodName) (ws : List Jvm.Cond) (bytes : ByteArray) (ml : Nat) (rt : Option FieldType) (as' : Array Value) (h0 : Heap) (rm : Room) (Q : Option Value → Heap → List Loc → Prop) : Prop :=
  MetFree l y (head1 (Jvm.Cond.code y bytes ml rt :: ws) rm) (fun a U => a = as' ∧ Z.Warmed39 U.vm ∧ U.heap = h0 ∧ CHO Z n0 U.vm h0) (fun _ _ _ _ _ => True) (fun _ U o U' => ∃ v L, o = .returned v ∧ Q v U'.heap L ∧ ReturnedEndW U o U' L rm.cells rm.slots)
theorem own_bodyE {n0 : Nat} {l : Launch} {Z : State} {y : MethodName} {ws : List Jvm.Cond} {bytes : ByteArray} {ml : Nat} {rt : Option FieldType} {as' : Array Value} {h0 : Heap} {rm : Room} {Q : Option Value → Heap → List Loc → Prop} (hp : plainFor y = true) {L0 : Array Slot} (hent : ∀ m, entryFrame m as' ml = mkF m 0 L0 [])
    (body : ∀ (p : Program) (e : Env) (s : State) (m : MethodId) (below : List Frame) (meth : Method) (c : Code) (s₁ : State), meth.sig.returnType = rt → meth.locks = false → p.tables.exec = Jvm.exec → c.code = bytes → c.maxLocals = ml → Z.Warmed39 s.vm → s.vm.findClass y.cls = some m.cls → meth.name = y.name → Stand p l e rm s m as' below meth c s₁ [] 0 0 → s₁.heap = h0 → CHO Z n0 s.vm h0 →
      ∃ s₂ o, Steps p.tables e below (s₁.setTop (mkF m 0 L0 [])) s₂ ∧ s₂.status = .running ∧ Ended s₂ below o ∧ ∃ v L, o = .returned v ∧ Q v s₂.heap L ∧ ReturnedEndW s o s₂ L rm.cells rm.slots) : PayE n0 l Z y ws bytes ml rt as' h0 rm Q := by
  refine MetFree.of_bodySF hp hisR ?_
  intro p e s m args below meth c s₁ Bd hml hP hK
  obtain ⟨rfl, hZ, hh, hch⟩ := hP
  obtain ⟨s₂, o, st, r⟩ := body p e s m below meth c s₁ Bd.returns Bd.notSynchronized Bd.exec Bd.bytes hml hZ (findClass_of_methodNamed Bd.named) (name_of_methodNamed Bd.named Bd.method).1 (Stand.of_body Bd) (by rw [← hh, Bd.state]; rfl) hch
  exact ⟨s₂, o, castTop (hent m) st, r⟩
theorem own_choAt {p : Program} {l : Launch} {e : Env} {R : Room} {s : State} {m : MethodId} {args : Array Value} {below : List Frame} {meth : Method} {c : Code} {T : State} {locs : List Loc} {cells slots : Nat} {Z : State} {a0 : Array Value} {h : Heap} {n0 : Nat} (Y : Stand p l e R s m args below meth c T locs cells slots) (hZ : Z.Warmed39 s.vm) (hEL : EW Z a0 consts_1) (H : CHO Z n0 s.vm h) : CHO Z n0 T.vm h := by
  have q := CHv.at (s := s) (vm0 := s.vm) Y hZ hEL H.1
  exact ⟨q.1, fun y b => (q.2.2 y b).elim (H.2 y) (fun hs => absurd (own_there b) (Nat.not_lt_of_le hs))⟩
theorem own_backE {p : Program} {l : Launch} {e : Env} {R : Room} {s : State} {args : Array Value} {below : List Frame} {Z : State} {a0 : Array Value} {h : Heap} {n0 : Nat} {y : MethodName} {bytes : ByteArray} {maxL : Nat} {ret : Option FieldType} {rm : Room} {len W : Nat} {as' : Array Value} {Q : Option Value → Heap → List Loc → Prop}
    (hM : PayE n0 l Z y [] bytes maxL ret as' h rm Q) (hZ : Z.Warmed39 s.vm) (wc : (Jvm.Cond.code y bytes maxL ret).before a0 Z = true) (wz : (Jvm.Cond.initialized y.cls).before a0 Z = true) (hf : rm.frames + 1 ≤ R.frames) (hl : W + (maxL + 11) + rm.locals ≤ R.locals) (hEL : EW Z a0 consts_1) (H : CHO Z n0 s.vm h) :
    BackS l R p e below s args y len W (fun A a => a = as' ∧ A.U.heap = h ∧ A.cells + rm.cells ≤ R.cells ∧ A.slots + rm.slots ≤ R.slots)
      (fun A _ v B => ∃ L, Q v B.U.heap L ∧ B.locs = A.locs ++ L ∧ B.cells = A.cells + rm.cells ∧ B.slots = A.slots + rm.slots) :=
  BackS.of_freeW (bytes := bytes) (maxL := maxL) (ret := ret) (E := fun _ _ o t L k n => k = rm.cells ∧ n = rm.slots ∧ ∃ v, o = .returned v ∧ Q v t.heap L) hM hf hl
    (fun m meth c A a Y hp => have hU : Z.Warmed39 A.U.vm := wtrans hZ Y.warmed
      ⟨by show (Cond.and _ .tt).before a A.U = true; rw [Cond.before_and, mv hU wc]; rfl, mv hU wc, mv hU wz, hp.2.2.1, hp.2.2.2⟩)
    (fun m meth c A a g mk Y hp => ⟨hp.1, wtrans hZ Y.warmed, hp.2.1, (show CHO Z n0 A.U.vm h from own_choAt Y hZ hEL H)⟩) (fun _ _ _ _ _ _ _ _ _ => trivial)
    (fun _ _ _ _ ⟨v, L, h1, h2, h4⟩ => ⟨L, _, _, h4, rfl, rfl, v, h1, h2⟩)
    (fun m meth c A a g mk v t L k n Y hp _ _ ⟨e1, e2, v', e3, e4⟩ => by
      cases e3; subst e1 e2
      exact ⟨L, e4, rfl, rfl, rfl⟩)
theorem own_EW {Z : State} {a0 : Array Value} (hw : HW Z a0) : EW Z a0 consts_1 := EW.cons (ww hw 58 rfl) (by decide +kernel) (EW.cons (ww hw 65 rfl) (by decide +kernel) (EW.cons (ww hw 74 rfl) (by decide +kernel) EW.nil))
abbrev My3 : MethodName := ⟨"com/example/bowline/bowline/sdk/TaskResult", "<init>", "(Ljava/lang/String;Ljava/util/Map;)V"⟩
abbrev My9 : MethodName := ⟨"java/lang/Integer", "valueOf", "(I)Ljava/lang/Integer;"⟩
abbrev My10 : MethodName := ⟨"com/example/bowline/bowline/sdk/TaskResult", "value", "(Ljava/lang/String;Ljava/lang/Object;)Lcom/example/bowline/bowline/sdk/TaskResult;"⟩
abbrev My12 : MethodName := ⟨"java/lang/String", "equals", "(Ljava/lang/Object;)Z"⟩
abbrev My13 : MethodName := ⟨"java/lang/StringLatin1", "equals", "([B[B)Z"⟩
abbrev My17 : MethodName := ⟨"java/util/HashMap", "putMapEntries", "(Ljava/util/Map;Z)V"⟩
abbrev My19 : MethodName := ⟨"java/util/HashMap", "put", "(Ljava/lang/Object;Ljava/lang/Object;)Ljava/lang/Object;"⟩
abbrev My20 : MethodName := ⟨"java/util/HashMap", "hash", "(Ljava/lang/Object;)I"⟩
abbrev My21 : MethodName := ⟨"java/lang/String", "hashCode", "()I"⟩
abbrev My22 : MethodName := ⟨"java/lang/String", "isLatin1", "()Z"⟩
abbrev My24 : MethodName := ⟨"java/util/HashMap", "putVal", "(ILjava/lang/Object;Ljava/lang/Object;ZZ)Ljava/lang/Object;"⟩
abbrev My25 : MethodName := ⟨"java/util/HashMap", "resize", "()[Ljava/util/HashMap$Node;"⟩
abbrev My26 : MethodName := ⟨"java/util/LinkedHashMap", "newNode", "(ILjava/lang/Object;Ljava/lang/Object;Ljava/util/HashMap$Node;)Ljava/util/HashMap$Node;"⟩
abbrev My27 : MethodName := ⟨"java/util/LinkedHashMap$Entry", "<init>", "(ILjava/lang/Object;Ljava/lang/Object;Ljava/util/HashMap$Node;)V"⟩
abbrev My28 : MethodName := ⟨"java/util/HashMap$Node", "<init>", "(ILjava/lang/Object;Ljava/lang/Object;Ljava/util/HashMap$Node;)V"⟩
abbrev My29 : MethodName := ⟨"java/util/LinkedHashMap", "linkNodeAtEnd", "(Ljava/util/LinkedHashMap$Entry;)V"⟩
abbrev My30 : MethodName := ⟨"java/util/LinkedHashMap", "afterNodeInsertion", "(Z)V"⟩
abbrev My31 : MethodName := ⟨"java/util/LinkedHashMap", "removeEldestEntry", "(Ljava/util/Map$Entry;)Z"⟩
abbrev My32 : MethodName := ⟨"java/util/Collections", "unmodifiableMap", "(Ljava/util/Map;)Ljava/util/Map;"⟩
abbrev My33 : MethodName := ⟨"java/util/Collections$UnmodifiableMap", "<init>", "(Ljava/util/Map;)V"⟩
abbrev My34 : MethodName := ⟨"com/example/bowline/bowline/sdk/TaskResult", "ok", "()Z"⟩
abbrev My35 : MethodName := ⟨"com/example/bowline/bowline/sdk/TaskResult", "errorMessage", "()Ljava/lang/String;"⟩
abbrev sC0 : String := "java/util/HashMap"
abbrev sC1 : String := "java/util/LinkedHashMap"
abbrev sC2 : String := "java/lang/String"
abbrev sC3 : String := "java/util/HashMap$Node"
abbrev sC4 : String := "java/util/LinkedHashMap$Entry"
abbrev sC5 : String := "java/lang/Object"
abbrev sC6 : String := "java/util/Map"
abbrev sC7 : String := "com/example/bowline/bowline/sdk/TaskResult"
abbrev sC8 : String := "java/lang/Integer"
abbrev sC10 : String := "java/util/Collections$UnmodifiableMap"
abbrev sC11 : String := "java/lang/StringLatin1"
/-- what the law's case says of the statics, at the start -/
def SF (Z : State) (w_EMPTY_MAP w_cache w_mir0 w_mir1 : Addr) (z_COMPACT_STRINGS : Int32) : Prop := (MirOf Z sC1 w_mir0) ∧ (MirOf Z sC10 w_mir1) ∧ (Sta Z Z.heap "java/util/ImmutableCollections" "EMPTY_MAP" "Ljava/util/ImmutableCollections$MapN;" (.ref w_EMPTY_MAP)) ∧ (Exa Z Z.heap w_EMPTY_MAP "java/util/ImmutableCollections$MapN") ∧ (Fld Z Z.heap w_EMPTY_MAP "java/util/ImmutableCollections$MapN" "size" "I" (.int (0 : Int32))) ∧ (Sta Z Z.heap sC2 "COMPACT_STRINGS" "Z" (.int z_COMPACT_STRINGS)) ∧ (¬ (z_COMPACT_STRINGS = (0 : Int32))) ∧ (Sta Z Z.heap "java/lang/Integer$IntegerCache" "high" "I" (.int (127 : Int32))) ∧ (Sta Z Z.heap "java/lang/Integer$IntegerCache" "cache" "[Ljava/lang/Integer;" (.ref w_cache)) ∧ ((∃ cl : Cell, Arr Z Z.heap w_cache cl (.object sC8) ∧ cl.slots.size = 256 ∧ ∀ j : Int32, ¬ (j < 0 ∨ cl.slots.size ≤ j.toNatClampNeg) → ∃ b : Addr, cl.slots[j.toNatClampNeg]? = some (.ref b))) ∧ True
theorem own_wS {Z : State} {a0 : Array Value} (hw : ∀ d ∈ tables_1, d.before a0 Z = true) : ∀ a ∈ Bundle.stringAtoms, a.before a0 Z = true := by
  intro a ha
  simp only [Bundle.stringAtoms, List.mem_cons, List.not_mem_nil, or_false] at ha
  rcases ha with rfl | rfl | rfl | rfl | rfl | rfl | rfl
  · exact (ww hw 24 rfl)
  · exact (ww hw 32 rfl)
  · exact (ww hw 36 rfl)
  · exact (ww hw 43 rfl)
  · exact (ww hw 45 rfl)
  · exact (ww hw 59 rfl)
  · exact (ww hw 60 rfl)
theorem pn_0 : plainName "com/example/bowline/bowline/sdk/TaskResultSuccessPinLaw" = true := by first | (simp [plainName, overriddenIn]; done) | decide +kernel
theorem pn_1 : plainName "com/example/bowline/bowline/sdk/TaskResult" = true := by first | (simp [plainName, overriddenIn]; done) | decide +kernel
theorem d1_0 : decode prog_19_method_2_code 0 = .ok (.new 8, 3) := by decide +kernel
theorem d1_3 : decode prog_19_method_2_code 3 = .ok (.dup, 1) := by decide +kernel
theorem d1_4 : decode prog_19_method_2_code 4 = .ok (.aconst_null, 1) := by decide +kernel
theorem d1_5 : decode prog_19_method_2_code 5 = .ok (.invokestatic 17, 3) := by decide +kernel
theorem pn_2 : plainName "java/util/Map" = true := by first | (simp [plainName, overriddenIn]; done) | decide +kernel
theorem d2_0 : decode jdk_72_method_26_code 0 = .ok (.getstatic 81, 3) := by decide +kernel
theorem d2_3 : decode jdk_72_method_26_code 3 = .ok (.areturn, 1) := by decide +kernel
def Q2_0 (Z : State) (w_EMPTY_MAP w_cache w_mir0 w_mir1 : Addr) (z_COMPACT_STRINGS : Int32) (h0 : Heap) (n0 : Nat) (v : Option Value) (h : Heap) (L : List Loc) : Prop := v = (some (.ref w_EMPTY_MAP)) ∧ Fr n0 L ∧ h = h0
theorem rm2_0 (l : Launch) (Z : State) (a0 : Array Value) (hw : HW Z a0) (ws : List Jvm.Cond) (w_EMPTY_MAP w_cache w_mir0 w_mir1 : Addr) (z_COMPACT_STRINGS : Int32) (h0 : Heap) (n0 : Nat) (O0 : Old Z n0 h0) (S : SF Z w_EMPTY_MAP w_cache w_mir0 w_mir1 z_COMPACT_STRINGS) :
    Pay l Z (⟨sC6, "of", "()Ljava/util/Map;"⟩ : MethodName) ws jdk_72_method_26_code 0 (some (.object sC6)) #[] h0 ({ frames := 0, cells := 0, slots := 0, locals := 0 } : Room) (Q2_0 Z w_EMPTY_MAP w_cache w_mir0 w_mir1 z_COMPACT_STRINGS  h0 n0) := by
  obtain ⟨-, -, S_w_EMPTY_MAP, -⟩ := id S
  refine own_body (plainFor_of_name pn_2) (L0 := #[]) (fun _ => by first | rfl | (simp [entryFrame, mkF, argsToLocals, Value.category]; done)) ?_
  intro p e s m below meth c s₁ hrt hlk hx hby hml hZ hown0 hnm X0 e0
  have hown : s.vm.findClass sC6 = some m.cls := hown0
  have N0 := Fr.nil n0
  have K0 : Keep h0 h0 [] := Keep.refl _ _
  obtain ⟨T1, X1, e1, st1⟩ := getS2 X0 hx hZ hown (host := "") (Or.inl (ww hw 10 rfl)) Via.refl e0 (S_w_EMPTY_MAP.ext O0.2) (g := (mkF m 0 #[] [])) rfl (hb hby d2_0)
  obtain ⟨fs, hr, hrun, hended, hW, hsame⟩ := X1.leave (v := (some (.ref w_EMPTY_MAP))) (fun h => by rw [hrt] at h; cases h)
  refine ⟨_, _, ?_, hrun, hended, _, _, rfl, ?_, ⟨_, rfl⟩, hW, hsame.mono (by decide) (by decide)⟩
  · show Steps p.tables e below (s₁.setTop (mkF m 0 #[] [])) _
    refine st1 _ ?_
    exact retOut X1 hx (t := (.object sC6)) (i := .areturn) hrt rfl (Or.inr (Or.inr (Or.inr (Or.inr ⟨rfl, rfl, rfl⟩)))) (hb hby d2_3) hr
  · show Q2_0 Z w_EMPTY_MAP w_cache w_mir0 w_mir1 z_COMPACT_STRINGS  h0 n0 (some (.ref w_EMPTY_MAP)) T1.heap _
    exact (⟨rfl, N0, e1⟩)
theorem pd_0 : parseMethodDescriptor "()Ljava/util/Map;" = some ⟨[], some (.object sC6)⟩ := by decide +kernel
theorem d1_8 : decode prog_19_method_2_code 8 = .ok (.invokespecial 23, 3) := by decide +kernel
theorem d3_0 : decode prog_19_method_1_code 0 = .ok (.aload_n 0, 1) := by decide +kernel
theorem d3_1 : decode prog_19_method_1_code 1 = .ok (.invokespecial 1, 3) := by decide +kernel
theorem d3_4 : decode prog_19_method_1_code 4 = .ok (.aload_n 0, 1) := by decide +kernel
theorem d3_5 : decode prog_19_method_1_code 5 = .ok (.aload_n 1, 1) := by decide +kernel
theorem d3_6 : decode prog_19_method_1_code 6 = .ok (.putfield 7, 3) := by decide +kernel
theorem d3_9 : decode prog_19_method_1_code 9 = .ok (.aload_n 0, 1) := by decide +kernel
theorem d3_10 : decode prog_19_method_1_code 10 = .ok (.aload_n 2, 1) := by decide +kernel
theorem d3_11 : decode prog_19_method_1_code 11 = .ok (.putfield 13, 3) := by decide +kernel
theorem d3_14 : decode prog_19_method_1_code 14 = .ok (.return_, 1) := by decide +kernel
def Q3_0 (Z : State) (w_EMPTY_MAP w_cache w_mir0 w_mir1 : Addr) (z_COMPACT_STRINGS : Int32) (o0 : Addr) (h0 : Heap) (n0 : Nat) (v : Option Value) (h : Heap) (L : List Loc) : Prop := v = none ∧ Fr n0 L ∧ Keep h0 h [o0] ∧ Exa Z h o0 sC7 ∧ Fld Z h o0 sC7 "errorMessage" "Ljava/lang/String;" .null ∧ Fld Z h o0 sC7 "values" "Ljava/util/Map;" (.ref w_EMPTY_MAP)
theorem rm3_0 (l : Launch) (Z : State) (a0 : Array Value) (hw : HW Z a0) (ws : List Jvm.Cond) (w_EMPTY_MAP w_cache w_mir0 w_mir1 : Addr) (z_COMPACT_STRINGS : Int32) (o0 : Addr) (h0 : Heap) (n0 : Nat) (O0 : Old Z n0 h0) (S : SF Z w_EMPTY_MAP w_cache w_mir0 w_mir1 z_COMPACT_STRINGS) (E_o0 : Exa Z h0 o0 sC7) (F_errorMessage_o0 : Fld Z h0 o0 sC7 "errorMessage" "Ljava/lang/String;" .null) (F_values_o0 : Fld Z h0 o0 sC7 "values" "Ljava/util/Map;" .null) (g_o0 : n0 ≤ o0) :
    Pay l Z My3 ws prog_19_method_1_code 3 none #[(.ref o0), .null, (.ref w_EMPTY_MAP)] h0 ({ frames := 1, cells := 0, slots := 0, locals := 12 } : Room) (Q3_0 Z w_EMPTY_MAP w_cache w_mir0 w_mir1 z_COMPACT_STRINGS o0 h0 n0) := by
  refine own_body (plainFor_of_name pn_1) (L0 := #[va o0, .val .null, va w_EMPTY_MAP]) (fun _ => by first | rfl | (simp [entryFrame, mkF, argsToLocals, Value.category]; done)) ?_
  intro p e s m below meth c s₁ hrt hlk hx hby hml hZ hown0 hnm X0 e0
  have hown : s.vm.findClass sC7 = some m.cls := hown0
  have N0 := Fr.nil n0
  have K0 : Keep h0 h0 [o0] := Keep.refl _ _
  obtain ⟨T1, X1, e1, st1⟩ := initO X0 hx hZ hown (ww hw 15 rfl) (ww hw 16 rfl) (ww hw 17 rfl) e0 (g := (mkF m 1 #[va o0, .val .null, va w_EMPTY_MAP] [(.ref o0)])) rfl (by rw [hml]; rfl) rfl (hb hby d3_1) (by decide) (W := 0) (by show 2 * 0 + _ ≤ _; exact Nat.le_of_eq rfl) (by decide)
  obtain ⟨T2, h2, X2, e2, W2, st2⟩ := putF X1 hx hZ hown (host := "") (Or.inl (ww hw 18 rfl)) Via.refl e1 F_errorMessage_o0 E_o0 (Or.inr ⟨(ww hw 19 rfl), rfl, hnm⟩) (ww hw 5 rfl) (ty := (.object sC2)) (by decide) rfl rfl (g := (mkF m 6 #[va o0, .val .null, va w_EMPTY_MAP] [.null, (.ref o0)])) rfl rfl (hb hby d3_6)
  have Fw2 := F_errorMessage_o0.same W2
  have O2 := O0.wr W2 g_o0
  have K2 : Keep h0 h2 [o0] := K0.wr W2 (Or.inl (List.mem_of_getElem? (i := 0) rfl))
  have N2 := Fr.snoc X2 N0 g_o0
  have fc3 := (F_values_o0.other W2 (Or.inr (slot_ne (Or.inr (ww hw 21 rfl)) (Or.inr (ww hw 19 rfl)) (by decide) (t := (.object sC6)) (t' := (.object sC2)) (by decide) (by decide))))
  have fc4 := (E_o0.wr W2)
  obtain ⟨T5, h5, X5, e5, W5, st5⟩ := putF X2 hx hZ hown (host := "") (Or.inl (ww hw 20 rfl)) Via.refl e2 fc3 fc4 (Or.inr ⟨(ww hw 21 rfl), rfl, hnm⟩) (ww hw 5 rfl) (ty := (.object sC6)) (by decide) rfl rfl (g := (mkF m 11 #[va o0, .val .null, va w_EMPTY_MAP] [(.ref w_EMPTY_MAP), (.ref o0)])) rfl rfl (hb hby d3_11)
  have Fw5 := fc3.same W5
  have O5 := O2.wr W5 g_o0
  have K5 : Keep h0 h5 [o0] := K2.wr W5 (Or.inl (List.mem_of_getElem? (i := 0) rfl))
  have N5 := Fr.snoc X5 N2 g_o0
  obtain ⟨fs, hr, hrun, hended, hW, hsame⟩ := X5.leave (v := none) (fun _ => rfl)
  have fc6 := (fc4.wr W5)
  have fc7 := (Fw2.other W5 (Or.inr (slot_ne (Or.inr (ww hw 19 rfl)) (Or.inr (ww hw 21 rfl)) (by decide) (t := (.object sC2)) (t' := (.object sC6)) (by decide) (by decide))))
  refine ⟨_, _, ?_, hrun, hended, _, _, rfl, ?_, ⟨_, rfl⟩, hW, hsame.mono (by decide) (by decide)⟩
  · show Steps p.tables e below (s₁.setTop (mkF m 0 #[va o0, .val .null, va w_EMPTY_MAP] [])) _
    refine XS.aloadN X0.here hx rfl (hb hby d3_0) rfl rfl ?_
    refine st1 _ ?_
    refine XS.aloadN X1.here hx rfl (hb hby d3_4) rfl rfl ?_
    refine XS.aloadN X1.here hx rfl (hb hby d3_5) rfl rfl ?_
    refine st2 _ ?_
    refine XS.aloadN X2.here hx rfl (hb hby d3_9) rfl rfl ?_
    refine XS.aloadN X2.here hx rfl (hb hby d3_10) rfl rfl ?_
    refine st5 _ ?_
    show Steps p.tables e below (T5.setTop (mkF m 14 #[va o0, .val .null, va w_EMPTY_MAP] [])) _
    exact X5.returnOut hx hrt (hb hby d3_14) hr
  · show Q3_0 Z w_EMPTY_MAP w_cache w_mir0 w_mir1 z_COMPACT_STRINGS o0 h0 n0 none T5.heap _
    rw [e5]; exact ⟨rfl, N5, K5, fc6, fc7, Fw5⟩
theorem pd_1 : parseMethodDescriptor "(Ljava/lang/String;Ljava/util/Map;)V" = some ⟨[(.object sC2), (.object sC6)], none⟩ := by decide +kernel
theorem d1_11 : decode prog_19_method_2_code 11 = .ok (.areturn, 1) := by decide +kernel
def Q1_0 (Z : State) (w_EMPTY_MAP w_cache w_mir0 w_mir1 : Addr) (z_COMPACT_STRINGS : Int32) (h0 : Heap) (n0 : Nat) (v : Option Value) (h : Heap) (L : List Loc) : Prop := ∃ (b1 : Addr), v = (some (.ref b1)) ∧ Fr n0 L ∧ Keep h0 h [] ∧ Exa Z h b1 sC7 ∧ Fld Z h b1 sC7 "errorMessage" "Ljava/lang/String;" .null ∧ Fld Z h b1 sC7 "values" "Ljava/util/Map;" (.ref w_EMPTY_MAP) ∧ h0.size ≤ b1
theorem rm1_0 (l : Launch) (Z : State) (a0 : Array Value) (hw : HW Z a0) (ws : List Jvm.Cond) (w_EMPTY_MAP w_cache w_mir0 w_mir1 : Addr) (z_COMPACT_STRINGS : Int32) (h0 : Heap) (n0 : Nat) (O0 : Old Z n0 h0) (S : SF Z w_EMPTY_MAP w_cache w_mir0 w_mir1 z_COMPACT_STRINGS) :
    Pay l Z (⟨sC7, "success", "()Lcom/example/bowline/bowline/sdk/TaskResult;"⟩ : MethodName) ws prog_19_method_2_code 0 (some (.object sC7)) #[] h0 ({ frames := 2, cells := 1, slots := 2, locals := 27 } : Room) (Q1_0 Z w_EMPTY_MAP w_cache w_mir0 w_mir1 z_COMPACT_STRINGS  h0 n0) := by
  refine own_body (plainFor_of_name pn_1) (L0 := #[]) (fun _ => by first | rfl | (simp [entryFrame, mkF, argsToLocals, Value.category]; done)) ?_
  intro p e s m below meth c s₁ hrt hlk hx hby hml hZ hown0 hnm X0 e0
  have hown : s.vm.findClass sC7 = some m.cls := hown0
  have N0 := Fr.nil n0
  have K0 : Keep h0 h0 [] := Keep.refl _ _
  obtain ⟨T1, h1, X1, e1, E1, A1, D1, -, st1⟩ := newO X0 hx hZ hown (ww hw 4 rfl) (ww hw 5 rfl) (ww hw 2 rfl) e0 (g := (mkF m 0 #[] [])) rfl (hb hby d1_0) (by decide) (by decide)
  obtain ⟨b1, qs1⟩ : ∃ z, z = h0.size := ⟨_, rfl⟩
  rw [← qs1] at A1 D1 st1
  have g_b1 : n0 ≤ b1 := Nat.le_trans (own_old O0) (Nat.le_of_eq qs1.symm)
  have sz_b1 : h0.size ≤ b1 := Nat.le_trans K0.1 (Nat.le_of_eq qs1.symm)
  have O1 := O0.ext E1
  have K1 : Keep h0 h1 [] := K0.ext E1
  have F_errorMessage_b1 : Fld Z h1 b1 sC7 "errorMessage" "Ljava/lang/String;" .null := D1 (Or.inr (ww hw 19 rfl)) (ty := (.object sC2)) (by decide)
  have F_values_b1 : Fld Z h1 b1 sC7 "values" "Ljava/util/Map;" .null := D1 (Or.inr (ww hw 21 rfl)) (ty := (.object sC6)) (by decide)
  obtain ⟨_, _, ⟨T2, L2, k2, n2⟩, -, X2, ⟨Lc2, hQ2, l2, y2, z2⟩, st2⟩ := Jvm.LawKit.callS X1 hx (y := (⟨sC6, "of", "()Ljava/util/Map;"⟩ : MethodName)) hown (mvT hZ (ww hw 6 rfl)) (mvT hZ (ww hw 7 rfl)) (mvT hZ (ww hw 8 rfl)) (mvT hZ (ww hw 9 rfl)) (by decide) (backOf (W := 3) (rm2_0 l Z a0 hw [] w_EMPTY_MAP w_cache w_mir0 w_mir1 z_COMPACT_STRINGS h1 n0 O1 S) hZ (ww hw 9 rfl) (ww hw 8 rfl) (by decide) (by decide)) (g := (mkF m 5 #[] [.null, (.ref b1), (.ref b1)])) rfl (by rw [hml]; rfl) (argsL := []) (rest := [.null, (.ref b1), (.ref b1)]) (lenOf pd_0 rfl) rfl (by show 2 * 0 + _ ≤ _; exact Nat.le_of_eq rfl) (hb hby d1_5) (fun _ _ => ⟨rfl, e1, (by decide : 1 + 0 ≤ _), (by decide : 2 + 0 ≤ _)⟩)
  dsimp only [Pt.U, Pt.locs, Pt.cells, Pt.slots] at X2 l2 y2 z2 st2 hQ2
  subst l2 y2 z2
  obtain ⟨rfl, Nq2, e2⟩ := hQ2
  have N2 := Fr.app N0 Nq2
  obtain ⟨_, _, ⟨T3, L3, k3, n3⟩, -, X3, ⟨Lc3, hQ3, l3, y3, z3⟩, st3⟩ := X2.specialBack hx (y := My3) rfl hown (mvT hZ (ww hw 12 rfl)) (mvT hZ (ww hw 13 rfl)) (mvT hZ (ww hw 14 rfl)) (by decide) (backOf (W := 1) (rm3_0 l Z a0 hw [] w_EMPTY_MAP w_cache w_mir0 w_mir1 z_COMPACT_STRINGS b1 h1 n0 O1 S A1 F_errorMessage_b1 F_values_b1 g_b1) hZ (ww hw 14 rfl) (ww hw 2 rfl) (by decide) (by decide)) (g := (mkF m 8 #[] [(.ref w_EMPTY_MAP), .null, (.ref b1), (.ref b1)])) rfl (by rw [hml]; rfl) (Steps.refl _) (a := b1) (argsL := [.null, (.ref w_EMPTY_MAP)]) (rest := [(.ref b1)]) (lenOf pd_1 rfl) rfl (by show 2 * 0 + _ ≤ _; exact Nat.le_of_eq rfl) (hb hby d1_8) (fun _ _ => ⟨rfl, e2, (by decide : 1 + 0 ≤ _), (by decide : 2 + 0 ≤ _)⟩)
  dsimp only [Pt.U, Pt.locs, Pt.cells, Pt.slots] at X3 l3 y3 z3 st3 hQ3
  subst l3 y3 z3
  obtain ⟨rfl, Nq3, Kc3, P0_3, P1_3, P2_3⟩ := hQ3
  have N3 := Fr.app N2 Nq3
  have O3 := O1.keep Kc3 (allS g_b1 all0)
  have K3 : Keep h0 T3.heap [] := K1.trans Kc3 (allS (Or.inr sz_b1) all0)
  obtain ⟨fs, hr, hrun, hended, hW, hsame⟩ := X3.leave (v := (some (.ref b1))) (fun h => by rw [hrt] at h; cases h)
  refine ⟨_, _, ?_, hrun, hended, _, _, rfl, ?_, ⟨_, rfl⟩, hW, hsame.mono (by decide) (by decide)⟩
  · show Steps p.tables e below (s₁.setTop (mkF m 0 #[] [])) _
    refine st1 _ ?_
    refine XS.dup X1.here hx rfl (hb hby d1_3) rfl rfl ?_
    refine XS.aconstNull X1.here hx rfl (hb hby d1_4) ?_
    refine st2 _ ?_
    refine st3.trans ?_
    exact retOut X3 hx (t := (.object sC7)) (i := .areturn) hrt rfl (Or.inr (Or.inr (Or.inr (Or.inr ⟨rfl, rfl, rfl⟩)))) (hb hby d1_11) hr
  · show Q1_0 Z w_EMPTY_MAP w_cache w_mir0 w_mir1 z_COMPACT_STRINGS  h0 n0 (some (.ref b1)) T3.heap _
    exact (⟨b1, rfl, N3, K3, P0_3, P1_3, P2_3, sz_b1⟩)
theorem pd_2 : parseMethodDescriptor "()Lcom/example/bowline/bowline/sdk/TaskResult;" = some ⟨[], some (.object sC7)⟩ := by decide +kernel
theorem pn_3 : plainName "java/lang/String" = true := by first | (simp [plainName, overriddenIn]; done) | decide +kernel
theorem d5_0 : decode jdk_42_method_139_code 0 = .ok (.getstatic 38, 3) := by decide +kernel
theorem d5_3 : decode jdk_42_method_139_code 3 = .ok (.ifCond .eq 23, 3) := by decide +kernel
theorem d5_6 : decode jdk_42_method_139_code 6 = .ok (.iload_n 0, 1) := by decide +kernel
theorem d5_7 : decode jdk_42_method_139_code 7 = .ok (.invokestatic 1015, 3) := by decide +kernel
theorem pn_4 : plainName "java/lang/StringLatin1" = true := by first | (simp [plainName, overriddenIn]; done) | decide +kernel
theorem d6_0 : decode jdk_43_method_3_code 0 = .ok (.iload_n 0, 1) := by decide +kernel
theorem d6_1 : decode jdk_43_method_3_code 1 = .ok (.sipush 255, 3) := by decide +kernel
theorem d6_4 : decode jdk_43_method_3_code 4 = .ok (.if_icmp .gt 7, 3) := by decide +kernel
theorem d6_7 : decode jdk_43_method_3_code 7 = .ok (.iconst 1, 1) := by decide +kernel
theorem d6_8 : decode jdk_43_method_3_code 8 = .ok (.goto 4, 3) := by decide +kernel
theorem d6_12 : decode jdk_43_method_3_code 12 = .ok (.ireturn, 1) := by decide +kernel
def Q6_0 (Z : State) (w_EMPTY_MAP w_cache w_mir0 w_mir1 : Addr) (z_COMPACT_STRINGS : Int32) (p0 : Int32) (h0 : Heap) (n0 : Nat) (v : Option Value) (h : Heap) (L : List Loc) : Prop := v = (some (.int 1)) ∧ Fr n0 L ∧ h = h0
theorem rm6_0 (l : Launch) (Z : State) (a0 : Array Value) (hw : HW Z a0) (ws : List Jvm.Cond) (w_EMPTY_MAP w_cache w_mir0 w_mir1 : Addr) (z_COMPACT_STRINGS : Int32) (p0 : Int32) (h0 : Heap) (n0 : Nat) (O0 : Old Z n0 h0) (S : SF Z w_EMPTY_MAP w_cache w_mir0 w_mir1 z_COMPACT_STRINGS) (hc0 : ¬ ((255 : Int32) < p0)) :
    Pay l Z (⟨sC11, "canEncode", "(C)Z"⟩ : MethodName) ws jdk_43_method_3_code 1 (some .boolean) #[(.int p0)] h0 ({ frames := 0, cells := 0, slots := 0, locals := 0 } : Room) (Q6_0 Z w_EMPTY_MAP w_cache w_mir0 w_mir1 z_COMPACT_STRINGS p0 h0 n0) := by
  refine own_body (plainFor_of_name pn_4) (L0 := #[vi p0]) (fun _ => by first | rfl | (simp [entryFrame, mkF, argsToLocals, Value.category]; done)) ?_
  intro p e s m below meth c s₁ hrt hlk hx hby hml hZ hown0 hnm X0 e0
  have hown : s.vm.findClass sC11 = some m.cls := hown0
  have N0 := Fr.nil n0
  have K0 : Keep h0 h0 [] := Keep.refl _ _
  obtain ⟨fs, hr, hrun, hended, hW, hsame⟩ := X0.leave (v := (some (.int 1))) (fun h => by rw [hrt] at h; cases h)
  refine ⟨_, _, ?_, hrun, hended, _, _, rfl, ?_, ⟨_, rfl⟩, hW, hsame.mono (by decide) (by decide)⟩
  · show Steps p.tables e below (s₁.setTop (mkF m 0 #[vi p0] [])) _
    refine XS.iloadN X0.here hx rfl (hb hby d6_0) rfl ?_
    refine XS.sipush X0.here hx rfl (hb hby d6_1) ?_
    refine XS.icmpNo X0.here hx rfl (hb hby d6_4) rfl (flt hc0).2.2.1 ?_
    refine XS.iconst X0.here hx rfl (hb hby d6_7) ?_
    refine XS.goto X0.here hx rfl (pc0 := 8) (pc' := 12) rfl (hb hby d6_8) (by decide) (by decide) ?_
    exact retN X0 hx (t := .boolean) hrt (by simp) (hb hby d6_12) hr
  · show Q6_0 Z w_EMPTY_MAP w_cache w_mir0 w_mir1 z_COMPACT_STRINGS p0 h0 n0 (some (.int 1)) s₁.heap _
    exact (⟨rfl, N0, e0⟩)
theorem pd_3 : parseMethodDescriptor "(C)Z" = some ⟨[.char], some .boolean⟩ := by decide +kernel
theorem d5_10 : decode jdk_42_method_139_code 10 = .ok (.ifCond .eq 16, 3) := by decide +kernel
theorem d5_13 : decode jdk_42_method_139_code 13 = .ok (.new 10, 3) := by decide +kernel
theorem d5_16 : decode jdk_42_method_139_code 16 = .ok (.dup, 1) := by decide +kernel
theorem d5_17 : decode jdk_42_method_139_code 17 = .ok (.iload_n 0, 1) := by decide +kernel
theorem d5_18 : decode jdk_42_method_139_code 18 = .ok (.invokestatic 1018, 3) := by decide +kernel
theorem d7_0 : decode jdk_43_method_46_code 0 = .ok (.iconst 1, 1) := by decide +kernel
theorem d7_1 : decode jdk_43_method_46_code 1 = .ok (.newarray .byte, 2) := by decide +kernel
theorem d7_3 : decode jdk_43_method_46_code 3 = .ok (.dup, 1) := by decide +kernel
theorem d7_4 : decode jdk_43_method_46_code 4 = .ok (.iconst 0, 1) := by decide +kernel
theorem d7_5 : decode jdk_43_method_46_code 5 = .ok (.iload_n 0, 1) := by decide +kernel
theorem d7_6 : decode jdk_43_method_46_code 6 = .ok (.i2b, 1) := by decide +kernel
theorem d7_7 : decode jdk_43_method_46_code 7 = .ok (.bastore, 1) := by decide +kernel
theorem d7_8 : decode jdk_43_method_46_code 8 = .ok (.areturn, 1) := by decide +kernel
def Q7_0 (Z : State) (w_EMPTY_MAP w_cache w_mir0 w_mir1 : Addr) (z_COMPACT_STRINGS : Int32) (p0 : Int32) (h0 : Heap) (n0 : Nat) (v : Option Value) (h : Heap) (L : List Loc) : Prop := ∃ (b1 : Addr), ∃ (k1 : ClassId), v = (some (.ref b1)) ∧ Fr n0 L ∧ Keep h0 h [] ∧ Arv Z h b1 k1 .byte (1 : Int32) [(.int (bb (bb p0)))] (.int 0) ∧ h0.size ≤ b1
theorem rm7_0 (l : Launch) (Z : State) (a0 : Array Value) (hw : HW Z a0) (ws : List Jvm.Cond) (w_EMPTY_MAP w_cache w_mir0 w_mir1 : Addr) (z_COMPACT_STRINGS : Int32) (p0 : Int32) (h0 : Heap) (n0 : Nat) (O0 : Old Z n0 h0) (S : SF Z w_EMPTY_MAP w_cache w_mir0 w_mir1 z_COMPACT_STRINGS) :
    Pay l Z (⟨sC11, "toBytes", "(C)[B"⟩ : MethodName) ws jdk_43_method_46_code 1 (some (.array .byte)) #[(.int p0)] h0 ({ frames := 0, cells := 1, slots := 1, locals := 0 } : Room) (Q7_0 Z w_EMPTY_MAP w_cache w_mir0 w_mir1 z_COMPACT_STRINGS p0 h0 n0) := by
  refine own_body (plainFor_of_name pn_4) (L0 := #[vi p0]) (fun _ => by first | rfl | (simp [entryFrame, mkF, argsToLocals, Value.category]; done)) ?_
  intro p e s m below meth c s₁ hrt hlk hx hby hml hZ hown0 hnm X0 e0
  have hown : s.vm.findClass sC11 = some m.cls := hown0
  have N0 := Fr.nil n0
  have K0 : Keep h0 h0 [] := Keep.refl _ _
  obtain ⟨T1, h1, k1, X1, e1, E1, A1, st1⟩ := newP X0 hx hZ (ww hw 36 rfl) e0 (g := (mkF m 1 #[vi p0] [(.int 1)])) rfl (hb hby d7_1) rfl (by decide) (cap := 1) (by decide) (by decide) (by decide) (by decide)
  obtain ⟨b1, qs1⟩ : ∃ z, z = h0.size := ⟨_, rfl⟩
  rw [← qs1] at A1 st1
  have g_b1 : n0 ≤ b1 := Nat.le_trans (own_old O0) (Nat.le_of_eq qs1.symm)
  have sz_b1 : h0.size ≤ b1 := Nat.le_trans K0.1 (Nat.le_of_eq qs1.symm)
  have O1 := O0.ext E1
  have K1 : Keep h0 h1 [] := K0.ext E1
  have V_b1 : Arv Z h1 b1 k1 .byte (1 : Int32) [(.int 0)] (.int 0) := (Arv.new A1 (by decide)).pad (pad_rep [] (.int 0) 1)
  obtain ⟨cl2, Ar2, qk2, Sz2, Ng2, Hh2, Gg2⟩ := id V_b1
  have hin2_0 : ¬ ((0 : Int32) < 0 ∨ cl2.slots.size ≤ ((0 : Int32)).toNatClampNeg) := inb_of Sz2 ⟨by decide, by decide⟩
  obtain ⟨T3, h3, X3, e3, W3, st3⟩ := stB X1 hx hZ e1 Ar2 (j := (0 : Int32)) hin2_0 (g := (mkF m 7 #[vi p0] [(.int (bb p0)), (.int 0), (.ref b1), (.ref b1)])) rfl rfl (hb hby d7_7)
  have V3 : Arv Z h3 b1 k1 .byte (1 : Int32) [(.int (bb (bb p0)))] (.int 0) := Arv.set Ar2 qk2 Sz2 Ng2 Hh2 Gg2 (fits_nar_byte _) W3 0 rfl (Nat.le_of_ble_eq_true rfl)
  have O3 := O1.wr W3 g_b1
  have K3 : Keep h0 h3 [] := K1.wr W3 (Or.inr sz_b1)
  have N3 := Fr.snoc X3 N0 g_b1
  obtain ⟨fs, hr, hrun, hended, hW, hsame⟩ := X3.leave (v := (some (.ref b1))) (fun h => by rw [hrt] at h; cases h)
  refine ⟨_, _, ?_, hrun, hended, _, _, rfl, ?_, ⟨_, rfl⟩, hW, hsame.mono (by decide) (by decide)⟩
  · show Steps p.tables e below (s₁.setTop (mkF m 0 #[vi p0] [])) _
    refine XS.iconst X0.here hx rfl (hb hby d7_0) ?_
    refine st1 _ ?_
    refine XS.dup X1.here hx rfl (hb hby d7_3) rfl rfl ?_
    refine XS.iconst X1.here hx rfl (hb hby d7_4) ?_
    refine XS.iloadN X1.here hx rfl (hb hby d7_5) rfl ?_
    refine XS.i2b X1.here hx rfl (hb hby d7_6) rfl ?_
    refine st3 _ ?_
    exact retOut X3 hx (t := (.array .byte)) (i := .areturn) hrt rfl (Or.inr (Or.inr (Or.inr (Or.inr ⟨rfl, rfl, rfl⟩)))) (hb hby d7_8) hr
  · show Q7_0 Z w_EMPTY_MAP w_cache w_mir0 w_mir1 z_COMPACT_STRINGS p0 h0 n0 (some (.ref b1)) T3.heap _
    rw [e3]; exact ⟨b1, k1, rfl, N3, K3, V3, sz_b1⟩
theorem pd_4 : parseMethodDescriptor "(C)[B" = some ⟨[.char], some (.array .byte)⟩ := by decide +kernel
theorem d5_21 : decode jdk_42_method_139_code 21 = .ok (.iconst 0, 1) := by decide +kernel
theorem d5_22 : decode jdk_42_method_139_code 22 = .ok (.invokespecial 209, 3) := by decide +kernel
theorem d8_0 : decode jdk_42_method_151_code 0 = .ok (.aload_n 0, 1) := by decide +kernel
theorem d8_1 : decode jdk_42_method_151_code 1 = .ok (.invokespecial 1, 3) := by decide +kernel
theorem d8_4 : decode jdk_42_method_151_code 4 = .ok (.aload_n 0, 1) := by decide +kernel
theorem d8_5 : decode jdk_42_method_151_code 5 = .ok (.aload_n 1, 1) := by decide +kernel
theorem d8_6 : decode jdk_42_method_151_code 6 = .ok (.putfield 9, 3) := by decide +kernel
theorem d8_9 : decode jdk_42_method_151_code 9 = .ok (.aload_n 0, 1) := by decide +kernel
theorem d8_10 : decode jdk_42_method_151_code 10 = .ok (.iload_n 2, 1) := by decide +kernel
theorem d8_11 : decode jdk_42_method_151_code 11 = .ok (.putfield 15, 3) := by decide +kernel
theorem d8_14 : decode jdk_42_method_151_code 14 = .ok (.return_, 1) := by decide +kernel
def Q8_0 (Z : State) (w_EMPTY_MAP w_cache w_mir0 w_mir1 : Addr) (z_COMPACT_STRINGS : Int32) (o0 : Addr) (o1 : Addr) (kk_o1 : ClassId) (p0 : Int32) (h0 : Heap) (n0 : Nat) (v : Option Value) (h : Heap) (L : List Loc) : Prop := v = none ∧ Fr n0 L ∧ Keep h0 h [o0] ∧ Exa Z h o0 sC2 ∧ Fld Z h o0 sC2 "coder" "B" (.int 0) ∧ Fld Z h o0 sC2 "hash" "I" (.int 0) ∧ Fld Z h o0 sC2 "hashIsZero" "Z" (.int 0) ∧ Fld Z h o0 sC2 "value" "[B" (.ref o1)
theorem rm8_0 (l : Launch) (Z : State) (a0 : Array Value) (hw : HW Z a0) (ws : List Jvm.Cond) (w_EMPTY_MAP w_cache w_mir0 w_mir1 : Addr) (z_COMPACT_STRINGS : Int32) (o0 : Addr) (o1 : Addr) (kk_o1 : ClassId) (p0 : Int32) (h0 : Heap) (n0 : Nat) (O0 : Old Z n0 h0) (S : SF Z w_EMPTY_MAP w_cache w_mir0 w_mir1 z_COMPACT_STRINGS) (E_o0 : Exa Z h0 o0 sC2) (F_coder_o0 : Fld Z h0 o0 sC2 "coder" "B" (.int 0)) (F_hash_o0 : Fld Z h0 o0 sC2 "hash" "I" (.int 0)) (F_hashIsZero_o0 : Fld Z h0 o0 sC2 "hashIsZero" "Z" (.int 0)) (F_value_o0 : Fld Z h0 o0 sC2 "value" "[B" .null) (g_o0 : n0 ≤ o0) :
    Pay l Z (⟨sC2, "<init>", "([BB)V"⟩ : MethodName) ws jdk_42_method_151_code 3 none #[(.ref o0), (.ref o1), (.int 0)] h0 ({ frames := 1, cells := 0, slots := 0, locals := 12 } : Room) (Q8_0 Z w_EMPTY_MAP w_cache w_mir0 w_mir1 z_COMPACT_STRINGS o0 o1 kk_o1 p0 h0 n0) := by
  refine own_body (plainFor_of_name pn_3) (L0 := #[va o0, va o1, vi 0]) (fun _ => by first | rfl | (simp [entryFrame, mkF, argsToLocals, Value.category]; done)) ?_
  intro p e s m below meth c s₁ hrt hlk hx hby hml hZ hown0 hnm X0 e0
  have hown : s.vm.findClass sC2 = some m.cls := hown0
  have N0 := Fr.nil n0
  have K0 : Keep h0 h0 [o0] := Keep.refl _ _
  obtain ⟨T1, X1, e1, st1⟩ := initO X0 hx hZ hown (ww hw 41 rfl) (ww hw 16 rfl) (ww hw 17 rfl) e0 (g := (mkF m 1 #[va o0, va o1, vi 0] [(.ref o0)])) rfl (by rw [hml]; rfl) rfl (hb hby d8_1) (by decide) (W := 0) (by show 2 * 0 + _ ≤ _; exact Nat.le_of_eq rfl) (by decide)
  obtain ⟨T2, h2, X2, e2, W2, st2⟩ := putF X1 hx hZ hown (host := "") (Or.inl (ww hw 42 rfl)) Via.refl e1 F_value_o0 E_o0 (Or.inr ⟨(ww hw 43 rfl), rfl, hnm⟩) (ww hw 32 rfl) (ty := (.array .byte)) (by decide) rfl rfl (g := (mkF m 6 #[va o0, va o1, vi 0] [(.ref o1), (.ref o0)])) rfl rfl (hb hby d8_6)
  have Fw2 := F_value_o0.same W2
  have O2 := O0.wr W2 g_o0
  have K2 : Keep h0 h2 [o0] := K0.wr W2 (Or.inl (List.mem_of_getElem? (i := 0) rfl))
  have N2 := Fr.snoc X2 N0 g_o0
  have fc3 := (F_coder_o0.other W2 (Or.inr (slot_ne (Or.inr (ww hw 45 rfl)) (Or.inr (ww hw 43 rfl)) (by decide) (t := .byte) (t' := (.array .byte)) (by decide) (by decide))))
  have fc4 := (E_o0.wr W2)
  obtain ⟨T5, h5, X5, e5, W5, st5⟩ := putFN X2 hx hZ hown (ww hw 44 rfl) Via.refl e2 fc3 fc4 (Or.inr ⟨(ww hw 45 rfl), rfl, hnm⟩) (ww hw 32 rfl) (ty := .byte) (v' := (.int 0)) (by decide) rfl (by decide) (g := (mkF m 11 #[va o0, va o1, vi 0] [(.int 0), (.ref o0)])) rfl rfl (hb hby d8_11)
  have Fw5 := fc3.same W5
  have O5 := O2.wr W5 g_o0
  have K5 : Keep h0 h5 [o0] := K2.wr W5 (Or.inl (List.mem_of_getElem? (i := 0) rfl))
  have N5 := Fr.snoc X5 N2 g_o0
  obtain ⟨fs, hr, hrun, hended, hW, hsame⟩ := X5.leave (v := none) (fun _ => rfl)
  have fc6 := (fc4.wr W5)
  have fc7 := ((F_hash_o0.other W2 (Or.inr (slot_ne (Or.inl (ww hw 138 rfl)) (Or.inr (ww hw 43 rfl)) (by decide) (t := .int) (t' := (.array .byte)) (by decide) (by decide)))).other W5 (Or.inr (slot_ne (Or.inl (ww hw 138 rfl)) (Or.inr (ww hw 45 rfl)) (by decide) (t := .int) (t' := .byte) (by decide) (by decide))))
  have fc8 := ((F_hashIsZero_o0.other W2 (Or.inr (slot_ne (Or.inl (ww hw 140 rfl)) (Or.inr (ww hw 43 rfl)) (by decide) (t := .boolean) (t' := (.array .byte)) (by decide) (by decide)))).other W5 (Or.inr (slot_ne (Or.inl (ww hw 140 rfl)) (Or.inr (ww hw 45 rfl)) (by decide) (t := .boolean) (t' := .byte) (by decide) (by decide))))
  have fc9 := (Fw2.other W5 (Or.inr (slot_ne (Or.inr (ww hw 43 rfl)) (Or.inr (ww hw 45 rfl)) (by decide) (t := (.array .byte)) (t' := .byte) (by decide) (by decide))))
  refine ⟨_, _, ?_, hrun, hended, _, _, rfl, ?_, ⟨_, rfl⟩, hW, hsame.mono (by decide) (by decide)⟩
  · show Steps p.tables e below (s₁.setTop (mkF m 0 #[va o0, va o1, vi 0] [])) _
    refine XS.aloadN X0.here hx rfl (hb hby d8_0) rfl rfl ?_
    refine st1 _ ?_
    refine XS.aloadN X1.here hx rfl (hb hby d8_4) rfl rfl ?_
    refine XS.aloadN X1.here hx rfl (hb hby d8_5) rfl rfl ?_
    refine st2 _ ?_
    refine XS.aloadN X2.here hx rfl (hb hby d8_9) rfl rfl ?_
    refine XS.iloadN X2.here hx rfl (hb hby d8_10) rfl ?_
    refine st5 _ ?_
    show Steps p.tables e below (T5.setTop (mkF m 14 #[va o0, va o1, vi 0] [])) _
    exact X5.returnOut hx hrt (hb hby d8_14) hr
  · show Q8_0 Z w_EMPTY_MAP w_cache w_mir0 w_mir1 z_COMPACT_STRINGS o0 o1 kk_o1 p0 h0 n0 none T5.heap _
    rw [e5]; exact ⟨rfl, N5, K5, fc6, Fw5, fc7, fc8, fc9⟩
theorem pd_5 : parseMethodDescriptor "([BB)V" = some ⟨[(.array .byte), .byte], none⟩ := by decide +kernel
theorem d5_25 : decode jdk_42_method_139_code 25 = .ok (.areturn, 1) := by decide +kernel
def Q5_0 (Z : State) (w_EMPTY_MAP w_cache w_mir0 w_mir1 : Addr) (z_COMPACT_STRINGS : Int32) (p0 : Int32) (h0 : Heap) (n0 : Nat) (v : Option Value) (h : Heap) (L : List Loc) : Prop := ∃ (b3 : Addr), ∃ (b1_4 : Addr), ∃ (k1_4 : ClassId), v = (some (.ref b3)) ∧ Fr n0 L ∧ Keep h0 h [] ∧ Exa Z h b3 sC2 ∧ Fld Z h b3 sC2 "coder" "B" (.int 0) ∧ Fld Z h b3 sC2 "hash" "I" (.int 0) ∧ Fld Z h b3 sC2 "hashIsZero" "Z" (.int 0) ∧ Fld Z h b3 sC2 "value" "[B" (.ref b1_4) ∧ Arv Z h b1_4 k1_4 .byte (1 : Int32) [(.int (bb (bb p0)))] (.int 0) ∧ h0.size ≤ b3 ∧ h0.size ≤ b1_4 ∧ b3 ≠ b1_4
theorem rm5_0 (l : Launch) (Z : State) (a0 : Array Value) (hw : HW Z a0) (ws : List Jvm.Cond) (w_EMPTY_MAP w_cache w_mir0 w_mir1 : Addr) (z_COMPACT_STRINGS : Int32) (p0 : Int32) (h0 : Heap) (n0 : Nat) (O0 : Old Z n0 h0) (S : SF Z w_EMPTY_MAP w_cache w_mir0 w_mir1 z_COMPACT_STRINGS) (hc0 : ¬ ((255 : Int32) < p0)) :
    Pay l Z (⟨sC2, "valueOf", "(C)Ljava/lang/String;"⟩ : MethodName) ws jdk_42_method_139_code 1 (some (.object sC2)) #[(.int p0)] h0 ({ frames := 2, cells := 2, slots := 5, locals := 27 } : Room) (Q5_0 Z w_EMPTY_MAP w_cache w_mir0 w_mir1 z_COMPACT_STRINGS p0 h0 n0) := by
  obtain ⟨-, -, -, -, -, S_z_COMPACT_STRINGS, hz_z_COMPACT_STRINGS, -⟩ := id S
  refine own_body (plainFor_of_name pn_3) (L0 := #[vi p0]) (fun _ => by first | rfl | (simp [entryFrame, mkF, argsToLocals, Value.category]; done)) ?_
  intro p e s m below meth c s₁ hrt hlk hx hby hml hZ hown0 hnm X0 e0
  have hown : s.vm.findClass sC2 = some m.cls := hown0
  have N0 := Fr.nil n0
  have K0 : Keep h0 h0 [] := Keep.refl _ _
  obtain ⟨T1, X1, e1, st1⟩ := getS2 X0 hx hZ hown (host := "") (Or.inl (ww hw 26 rfl)) Via.refl e0 (S_z_COMPACT_STRINGS.ext O0.2) (g := (mkF m 0 #[vi p0] [])) rfl (hb hby d5_0)
  obtain ⟨_, _, ⟨T2, L2, k2, n2⟩, -, X2, ⟨Lc2, hQ2, l2, y2, z2⟩, st2⟩ := Jvm.LawKit.callS X1 hx (y := (⟨sC11, "canEncode", "(C)Z"⟩ : MethodName)) hown (mvT hZ (ww hw 27 rfl)) (mvT hZ (ww hw 28 rfl)) (mvT hZ (ww hw 29 rfl)) (mvT hZ (ww hw 30 rfl)) (by decide) (backOf (W := 0) (rm6_0 l Z a0 hw [] w_EMPTY_MAP w_cache w_mir0 w_mir1 z_COMPACT_STRINGS p0 h0 n0 O0 S hc0) hZ (ww hw 30 rfl) (ww hw 29 rfl) (by decide) (by decide)) (g := (mkF m 7 #[vi p0] [(.int p0)])) rfl (by rw [hml]; rfl) (argsL := [(.int p0)]) (rest := []) (lenOf pd_3 rfl) rfl (by show 2 * 0 + _ ≤ _; exact Nat.le_of_eq rfl) (hb hby d5_7) (fun _ _ => ⟨rfl, e1, (by decide : 0 + 0 ≤ _), (by decide : 0 + 0 ≤ _)⟩)
  dsimp only [Pt.U, Pt.locs, Pt.cells, Pt.slots] at X2 l2 y2 z2 st2 hQ2
  subst l2 y2 z2
  obtain ⟨rfl, Nq2, e2⟩ := hQ2
  have N2 := Fr.app N0 Nq2
  obtain ⟨T3, h3, X3, e3, E3, A3, D3, -, st3⟩ := newO X2 hx hZ hown (ww hw 31 rfl) (ww hw 32 rfl) (ww hw 24 rfl) e2 (g := (mkF m 13 #[vi p0] [])) rfl (hb hby d5_13) (by decide) (by decide)
  obtain ⟨b3, qs3⟩ : ∃ z, z = h0.size := ⟨_, rfl⟩
  rw [← qs3] at A3 D3 st3
  have g_b3 : n0 ≤ b3 := Nat.le_trans (own_old O0) (Nat.le_of_eq qs3.symm)
  have sz_b3 : h0.size ≤ b3 := Nat.le_trans K0.1 (Nat.le_of_eq qs3.symm)
  have O3 := O0.ext E3
  have K3 : Keep h0 h3 [] := K0.ext E3
  have F_value_b3 : Fld Z h3 b3 sC2 "value" "[B" .null := D3 (Or.inr (ww hw 43 rfl)) (ty := (.array .byte)) (by decide)
  have F_coder_b3 : Fld Z h3 b3 sC2 "coder" "B" (.int 0) := D3 (Or.inr (ww hw 45 rfl)) (ty := .byte) (by decide)
  have F_hash_b3 : Fld Z h3 b3 sC2 "hash" "I" (.int 0) := D3 (Or.inl (ww hw 138 rfl)) (ty := .int) (by decide)
  have F_hashIsZero_b3 : Fld Z h3 b3 sC2 "hashIsZero" "Z" (.int 0) := D3 (Or.inl (ww hw 140 rfl)) (ty := .boolean) (by decide)
  obtain ⟨_, _, ⟨T4, L4, k4, n4⟩, -, X4, ⟨Lc4, hQ4, l4, y4, z4⟩, st4⟩ := Jvm.LawKit.callS X3 hx (y := (⟨sC11, "toBytes", "(C)[B"⟩ : MethodName)) hown (mvT hZ (ww hw 33 rfl)) (mvT hZ (ww hw 34 rfl)) (mvT hZ (ww hw 29 rfl)) (mvT hZ (ww hw 35 rfl)) (by decide) (backOf (W := 2) (rm7_0 l Z a0 hw [] w_EMPTY_MAP w_cache w_mir0 w_mir1 z_COMPACT_STRINGS p0 h3 n0 O3 S) hZ (ww hw 35 rfl) (ww hw 29 rfl) (by decide) (by decide)) (g := (mkF m 18 #[vi p0] [(.int p0), (.ref b3), (.ref b3)])) rfl (by rw [hml]; rfl) (argsL := [(.int p0)]) (rest := [(.ref b3), (.ref b3)]) (lenOf pd_4 rfl) rfl (by show 2 * 0 + _ ≤ _; exact Nat.le_of_eq rfl) (hb hby d5_18) (fun _ _ => ⟨rfl, e3, (by decide : 1 + 1 ≤ _), (by decide : 4 + 1 ≤ _)⟩)
  dsimp only [Pt.U, Pt.locs, Pt.cells, Pt.slots] at X4 l4 y4 z4 st4 hQ4
  subst l4 y4 z4
  obtain ⟨b1_4, k1_4, rfl, Nq4, Kc4, P0_4, P1_4⟩ := hQ4
  have N4 := Fr.app N2 Nq4
  have ne_b3_b1_4 : b3 ≠ b1_4 := Nat.ne_of_lt (Nat.lt_of_lt_of_le A3.lt P1_4)
  have g_b1_4 : n0 ≤ b1_4 := Nat.le_trans (own_old O3) P1_4
  have sz_b1_4 : h0.size ≤ b1_4 := Nat.le_trans K3.1 P1_4
  have O4 := O3.keep Kc4 all0
  have K4 : Keep h0 T4.heap [] := K3.trans Kc4 all0
  have fc5 := (A3.keep Kc4)
  have fc6 := (F_coder_b3.keep Kc4 nin0)
  have fc7 := (F_hash_b3.keep Kc4 nin0)
  have fc8 := (F_hashIsZero_b3.keep Kc4 nin0)
  have fc9 := (F_value_b3.keep Kc4 nin0)
  obtain ⟨_, _, ⟨T10, L10, k10, n10⟩, -, X10, ⟨Lc10, hQ10, l10, y10, z10⟩, st10⟩ := X4.specialBack hx (y := (⟨sC2, "<init>", "([BB)V"⟩ : MethodName)) rfl hown (mvT hZ (ww hw 37 rfl)) (mvT hZ (ww hw 38 rfl)) (mvT hZ (ww hw 40 rfl)) (by decide) (backOf (W := 1) (rm8_0 l Z a0 hw [] w_EMPTY_MAP w_cache w_mir0 w_mir1 z_COMPACT_STRINGS b3 b1_4 k1_4 (bb (bb p0)) T4.heap n0 O4 S fc5 fc6 fc7 fc8 fc9 g_b3) hZ (ww hw 40 rfl) (ww hw 24 rfl) (by decide) (by decide)) (g := (mkF m 22 #[vi p0] [(.int 0), (.ref b1_4), (.ref b3), (.ref b3)])) rfl (by rw [hml]; rfl) (Steps.refl _) (a := b3) (argsL := [(.ref b1_4), (.int 0)]) (rest := [(.ref b3)]) (lenOf pd_5 rfl) rfl (by show 2 * 0 + _ ≤ _; exact Nat.le_of_eq rfl) (hb hby d5_22) (fun _ _ => ⟨rfl, rfl, (by decide : 2 + 0 ≤ _), (by decide : 5 + 0 ≤ _)⟩)
  dsimp only [Pt.U, Pt.locs, Pt.cells, Pt.slots] at X10 l10 y10 z10 st10 hQ10
  subst l10 y10 z10
  obtain ⟨rfl, Nq10, Kc10, P0_10, P1_10, P2_10, P3_10, P4_10⟩ := hQ10
  have N10 := Fr.app N4 Nq10
  have O10 := O4.keep Kc10 (allS g_b3 all0)
  have K10 : Keep h0 T10.heap [] := K4.trans Kc10 (allS (Or.inr sz_b3) all0)
  obtain ⟨fs, hr, hrun, hended, hW, hsame⟩ := X10.leave (v := (some (.ref b3))) (fun h => by rw [hrt] at h; cases h)
  have fc11 := (P0_4.keep Kc10 (ninS (Ne.symm ne_b3_b1_4) nin0))
  refine ⟨_, _, ?_, hrun, hended, _, _, rfl, ?_, ⟨_, rfl⟩, hW, hsame.mono (by decide) (by decide)⟩
  · show Steps p.tables e below (s₁.setTop (mkF m 0 #[vi p0] [])) _
    refine st1 _ ?_
    refine XS.ifNo X1.here hx rfl (hb hby d5_3) rfl ((if0 _ _).trans (feq hz_z_COMPACT_STRINGS).1) ?_
    refine XS.iloadN X1.here hx rfl (hb hby d5_6) rfl ?_
    refine st2 _ ?_
    refine XS.ifNo X2.here hx rfl (hb hby d5_10) rfl ((if0 _ _).trans (feq (by decide : ¬ ((1 : Int32) = (0 : Int32)))).1) ?_
    refine st3 _ ?_
    refine XS.dup X3.here hx rfl (hb hby d5_16) rfl rfl ?_
    refine XS.iloadN X3.here hx rfl (hb hby d5_17) rfl ?_
    show Steps p.tables e below (T3.setTop (mkF m 18 #[vi p0] [(.int p0), (.ref b3), (.ref b3)])) _
    refine st4 _ ?_
    refine XS.iconst X4.here hx rfl (hb hby d5_21) ?_
    refine st10.trans ?_
    exact retOut X10 hx (t := (.object sC2)) (i := .areturn) hrt rfl (Or.inr (Or.inr (Or.inr (Or.inr ⟨rfl, rfl, rfl⟩)))) (hb hby d5_25) hr
  · show Q5_0 Z w_EMPTY_MAP w_cache w_mir0 w_mir1 z_COMPACT_STRINGS p0 h0 n0 (some (.ref b3)) T10.heap _
    exact (⟨b3, b1_4, k1_4, rfl, N10, K10, P0_10, P1_10, P2_10, P3_10, P4_10, fc11, sz_b3, sz_b1_4, ne_b3_b1_4⟩)
theorem pd_6 : parseMethodDescriptor "(C)Ljava/lang/String;" = some ⟨[.char], some (.object sC2)⟩ := by decide +kernel
theorem pn_5 : plainName "java/lang/Integer" = true := by first | (simp [plainName, overriddenIn]; done) | decide +kernel
theorem d9_0 : decode jdk_33_method_22_code 0 = .ok (.iload_n 0, 1) := by decide +kernel
theorem d9_1 : decode jdk_33_method_22_code 1 = .ok (.bipush (-128), 2) := by decide +kernel
theorem d9_3 : decode jdk_33_method_22_code 3 = .ok (.if_icmp .lt 20, 3) := by decide +kernel
theorem d9_23 : decode jdk_33_method_22_code 23 = .ok (.new 1, 3) := by decide +kernel
theorem d9_26 : decode jdk_33_method_22_code 26 = .ok (.dup, 1) := by decide +kernel
theorem d9_27 : decode jdk_33_method_22_code 27 = .ok (.iload_n 0, 1) := by decide +kernel
theorem d9_28 : decode jdk_33_method_22_code 28 = .ok (.invokespecial 199, 3) := by decide +kernel
theorem d36_0 : decode jdk_33_method_23_code 0 = .ok (.aload_n 0, 1) := by decide +kernel
theorem d36_1 : decode jdk_33_method_23_code 1 = .ok (.invokespecial 202, 3) := by decide +kernel
theorem pn_6 : plainName "java/lang/Number" = true := by first | (simp [plainName, overriddenIn]; done) | decide +kernel
theorem d37_0 : decode jdk_18_method_1_code 0 = .ok (.aload_n 0, 1) := by decide +kernel
theorem d37_1 : decode jdk_18_method_1_code 1 = .ok (.invokespecial 1, 3) := by decide +kernel
theorem d37_4 : decode jdk_18_method_1_code 4 = .ok (.return_, 1) := by decide +kernel
def Q37_0 (Z : State) (w_EMPTY_MAP w_cache w_mir0 w_mir1 : Addr) (z_COMPACT_STRINGS : Int32) (o0 : Addr) (h0 : Heap) (n0 : Nat) (v : Option Value) (h : Heap) (L : List Loc) : Prop := v = none ∧ Fr n0 L ∧ h = h0
theorem rm37_0 (l : Launch) (Z : State) (a0 : Array Value) (hw : HW Z a0) (ws : List Jvm.Cond) (w_EMPTY_MAP w_cache w_mir0 w_mir1 : Addr) (z_COMPACT_STRINGS : Int32) (o0 : Addr) (h0 : Heap) (n0 : Nat) (O0 : Old Z n0 h0) (S : SF Z w_EMPTY_MAP w_cache w_mir0 w_mir1 z_COMPACT_STRINGS) :
    Pay l Z (⟨"java/lang/Number", "<init>", "()V"⟩ : MethodName) ws jdk_18_method_1_code 1 none #[(.ref o0)] h0 ({ frames := 1, cells := 0, slots := 0, locals := 12 } : Room) (Q37_0 Z w_EMPTY_MAP w_cache w_mir0 w_mir1 z_COMPACT_STRINGS o0 h0 n0) := by
  refine own_body (plainFor_of_name pn_6) (L0 := #[va o0]) (fun _ => by first | rfl | (simp [entryFrame, mkF, argsToLocals, Value.category]; done)) ?_
  intro p e s m below meth c s₁ hrt hlk hx hby hml hZ hown0 hnm X0 e0
  have hown : s.vm.findClass "java/lang/Number" = some m.cls := hown0
  have N0 := Fr.nil n0
  have K0 : Keep h0 h0 [] := Keep.refl _ _
  obtain ⟨T1, X1, e1, st1⟩ := initO X0 hx hZ hown (ww hw 262 rfl) (ww hw 16 rfl) (ww hw 17 rfl) e0 (g := (mkF m 1 #[va o0] [(.ref o0)])) rfl (by rw [hml]; rfl) rfl (hb hby d37_1) (by decide) (W := 0) (by show 2 * 0 + _ ≤ _; exact Nat.le_of_eq rfl) (by decide)
  obtain ⟨fs, hr, hrun, hended, hW, hsame⟩ := X1.leave (v := none) (fun _ => rfl)
  refine ⟨_, _, ?_, hrun, hended, _, _, rfl, ?_, ⟨_, rfl⟩, hW, hsame.mono (by decide) (by decide)⟩
  · show Steps p.tables e below (s₁.setTop (mkF m 0 #[va o0] [])) _
    refine XS.aloadN X0.here hx rfl (hb hby d37_0) rfl rfl ?_
    refine st1 _ ?_
    exact X1.returnOut hx hrt (hb hby d37_4) hr
  · show Q37_0 Z w_EMPTY_MAP w_cache w_mir0 w_mir1 z_COMPACT_STRINGS o0 h0 n0 none T1.heap _
    exact (⟨rfl, N0, e1⟩)
theorem pd_7 : parseMethodDescriptor "()V" = some ⟨[], none⟩ := by decide +kernel
theorem d36_4 : decode jdk_33_method_23_code 4 = .ok (.aload_n 0, 1) := by decide +kernel
theorem d36_5 : decode jdk_33_method_23_code 5 = .ok (.iload_n 1, 1) := by decide +kernel
theorem d36_6 : decode jdk_33_method_23_code 6 = .ok (.putfield 205, 3) := by decide +kernel
theorem d36_9 : decode jdk_33_method_23_code 9 = .ok (.return_, 1) := by decide +kernel
def Q36_0 (Z : State) (w_EMPTY_MAP w_cache w_mir0 w_mir1 : Addr) (z_COMPACT_STRINGS : Int32) (o0 : Addr) (p0 : Int32) (h0 : Heap) (n0 : Nat) (v : Option Value) (h : Heap) (L : List Loc) : Prop := v = none ∧ Fr n0 L ∧ Keep h0 h [o0] ∧ Exa Z h o0 sC8 ∧ Fld Z h o0 sC8 "value" "I" (.int p0)
theorem rm36_0 (l : Launch) (Z : State) (a0 : Array Value) (hw : HW Z a0) (ws : List Jvm.Cond) (w_EMPTY_MAP w_cache w_mir0 w_mir1 : Addr) (z_COMPACT_STRINGS : Int32) (o0 : Addr) (p0 : Int32) (h0 : Heap) (n0 : Nat) (O0 : Old Z n0 h0) (S : SF Z w_EMPTY_MAP w_cache w_mir0 w_mir1 z_COMPACT_STRINGS) (E_o0 : Exa Z h0 o0 sC8) (F_value_o0 : Fld Z h0 o0 sC8 "value" "I" (.int 0)) (g_o0 : n0 ≤ o0) :
    Pay l Z (⟨sC8, "<init>", "(I)V"⟩ : MethodName) ws jdk_33_method_23_code 2 none #[(.ref o0), (.int p0)] h0 ({ frames := 2, cells := 0, slots := 0, locals := 24 } : Room) (Q36_0 Z w_EMPTY_MAP w_cache w_mir0 w_mir1 z_COMPACT_STRINGS o0 p0 h0 n0) := by
  refine own_body (plainFor_of_name pn_5) (L0 := #[va o0, vi p0]) (fun _ => by first | rfl | (simp [entryFrame, mkF, argsToLocals, Value.category]; done)) ?_
  intro p e s m below meth c s₁ hrt hlk hx hby hml hZ hown0 hnm X0 e0
  have hown : s.vm.findClass sC8 = some m.cls := hown0
  have N0 := Fr.nil n0
  have K0 : Keep h0 h0 [o0] := Keep.refl _ _
  obtain ⟨_, _, ⟨T1, L1, k1, n1⟩, -, X1, ⟨Lc1, hQ1, l1, y1, z1⟩, st1⟩ := X0.specialBack hx (y := (⟨"java/lang/Number", "<init>", "()V"⟩ : MethodName)) rfl hown (mvT hZ (ww hw 256 rfl)) (mvT hZ (ww hw 257 rfl)) (mvT hZ (ww hw 261 rfl)) (by decide) (backOf (W := 0) (rm37_0 l Z a0 hw [] w_EMPTY_MAP w_cache w_mir0 w_mir1 z_COMPACT_STRINGS o0 h0 n0 O0 S) hZ (ww hw 261 rfl) (ww hw 260 rfl) (by decide) (by decide)) (g := (mkF m 1 #[va o0, vi p0] [(.ref o0)])) rfl (by rw [hml]; rfl) (Steps.refl _) (a := o0) (argsL := []) (rest := []) (lenOf pd_7 rfl) rfl (by show 2 * 0 + _ ≤ _; exact Nat.le_of_eq rfl) (hb hby d36_1) (fun _ _ => ⟨rfl, e0, (by decide : 0 + 0 ≤ _), (by decide : 0 + 0 ≤ _)⟩)
  dsimp only [Pt.U, Pt.locs, Pt.cells, Pt.slots] at X1 l1 y1 z1 st1 hQ1
  subst l1 y1 z1
  obtain ⟨rfl, Nq1, e1⟩ := hQ1
  have N1 := Fr.app N0 Nq1
  obtain ⟨T2, h2, X2, e2, W2, st2⟩ := putF X1 hx hZ hown (host := "") (Or.inl (ww hw 263 rfl)) Via.refl e1 F_value_o0 E_o0 (Or.inr ⟨(ww hw 264 rfl), rfl, hnm⟩) (ww hw 251 rfl) (ty := .int) (by decide) rfl rfl (g := (mkF m 6 #[va o0, vi p0] [(.int p0), (.ref o0)])) rfl rfl (hb hby d36_6)
  have Fw2 := F_value_o0.same W2
  have O2 := O0.wr W2 g_o0
  have K2 : Keep h0 h2 [o0] := K0.wr W2 (Or.inl (List.mem_of_getElem? (i := 0) rfl))
  have N2 := Fr.snoc X2 N1 g_o0
  obtain ⟨fs, hr, hrun, hended, hW, hsame⟩ := X2.leave (v := none) (fun _ => rfl)
  have fc3 := (E_o0.wr W2)
  refine ⟨_, _, ?_, hrun, hended, _, _, rfl, ?_, ⟨_, rfl⟩, hW, hsame.mono (by decide) (by decide)⟩
  · show Steps p.tables e below (s₁.setTop (mkF m 0 #[va o0, vi p0] [])) _
    refine XS.aloadN X0.here hx rfl (hb hby d36_0) rfl rfl ?_
    refine st1.trans ?_
    refine XS.aloadN X1.here hx rfl (hb hby d36_4) rfl rfl ?_
    refine XS.iloadN X1.here hx rfl (hb hby d36_5) rfl ?_
    refine st2 _ ?_
    exact X2.returnOut hx hrt (hb hby d36_9) hr
  · show Q36_0 Z w_EMPTY_MAP w_cache w_mir0 w_mir1 z_COMPACT_STRINGS o0 p0 h0 n0 none T2.heap _
    rw [e2]; exact ⟨rfl, N2, K2, fc3, Fw2⟩
theorem pd_8 : parseMethodDescriptor "(I)V" = some ⟨[.int], none⟩ := by decide +kernel
theorem d9_31 : decode jdk_33_method_22_code 31 = .ok (.areturn, 1) := by decide +kernel
theorem d9_6 : decode jdk_33_method_22_code 6 = .ok (.iload_n 0, 1) := by decide +kernel
theorem d9_7 : decode jdk_33_method_22_code 7 = .ok (.getstatic 191, 3) := by decide +kernel
theorem d9_10 : decode jdk_33_method_22_code 10 = .ok (.if_icmp .gt 13, 3) := by decide +kernel
theorem d9_13 : decode jdk_33_method_22_code 13 = .ok (.getstatic 195, 3) := by decide +kernel
theorem d9_16 : decode jdk_33_method_22_code 16 = .ok (.iload_n 0, 1) := by decide +kernel
theorem d9_17 : decode jdk_33_method_22_code 17 = .ok (.sipush 128, 3) := by decide +kernel
theorem d9_20 : decode jdk_33_method_22_code 20 = .ok (.iadd, 1) := by decide +kernel
theorem d9_21 : decode jdk_33_method_22_code 21 = .ok (.aaload, 1) := by decide +kernel
theorem d9_22 : decode jdk_33_method_22_code 22 = .ok (.areturn, 1) := by decide +kernel
def Q9_0 (Z : State) (w_EMPTY_MAP w_cache w_mir0 w_mir1 : Addr) (z_COMPACT_STRINGS : Int32) (p0 : Int32) (h0 : Heap) (n0 : Nat) (v : Option Value) (h : Heap) (L : List Loc) : Prop := ∃ (b1 : Addr), v = (some (.ref b1)) ∧ Fr n0 L ∧ Keep h0 h [] ∧ Exa Z h b1 sC8 ∧ Fld Z h b1 sC8 "value" "I" (.int p0) ∧ h0.size ≤ b1
theorem rm9_0 (l : Launch) (Z : State) (a0 : Array Value) (hw : HW Z a0) (ws : List Jvm.Cond) (w_EMPTY_MAP w_cache w_mir0 w_mir1 : Addr) (z_COMPACT_STRINGS : Int32) (p0 : Int32) (h0 : Heap) (n0 : Nat) (O0 : Old Z n0 h0) (S : SF Z w_EMPTY_MAP w_cache w_mir0 w_mir1 z_COMPACT_STRINGS) (hc0 : p0 < (-128 : Int32)) :
    Pay l Z My9 ws jdk_33_method_22_code 1 (some (.object sC8)) #[(.int p0)] h0 ({ frames := 3, cells := 1, slots := 1, locals := 38 } : Room) (Q9_0 Z w_EMPTY_MAP w_cache w_mir0 w_mir1 z_COMPACT_STRINGS p0 h0 n0) := by
  refine own_body (plainFor_of_name pn_5) (L0 := #[vi p0]) (fun _ => by first | rfl | (simp [entryFrame, mkF, argsToLocals, Value.category]; done)) ?_
  intro p e s m below meth c s₁ hrt hlk hx hby hml hZ hown0 hnm X0 e0
  have hown : s.vm.findClass sC8 = some m.cls := hown0
  have N0 := Fr.nil n0
  have K0 : Keep h0 h0 [] := Keep.refl _ _
  obtain ⟨T1, h1, X1, e1, E1, A1, D1, -, st1⟩ := newO X0 hx hZ hown (ww hw 250 rfl) (ww hw 251 rfl) (ww hw 48 rfl) e0 (g := (mkF m 23 #[vi p0] [])) rfl (hb hby d9_23) (by decide) (by decide)
  obtain ⟨b1, qs1⟩ : ∃ z, z = h0.size := ⟨_, rfl⟩
  rw [← qs1] at A1 D1 st1
  have g_b1 : n0 ≤ b1 := Nat.le_trans (own_old O0) (Nat.le_of_eq qs1.symm)
  have sz_b1 : h0.size ≤ b1 := Nat.le_trans K0.1 (Nat.le_of_eq qs1.symm)
  have O1 := O0.ext E1
  have K1 : Keep h0 h1 [] := K0.ext E1
  have F_value_b1 : Fld Z h1 b1 sC8 "value" "I" (.int 0) := D1 (Or.inr (ww hw 264 rfl)) (ty := .int) (by decide)
  obtain ⟨_, _, ⟨T2, L2, k2, n2⟩, -, X2, ⟨Lc2, hQ2, l2, y2, z2⟩, st2⟩ := X1.specialBack hx (y := (⟨sC8, "<init>", "(I)V"⟩ : MethodName)) rfl hown (mvT hZ (ww hw 252 rfl)) (mvT hZ (ww hw 253 rfl)) (mvT hZ (ww hw 255 rfl)) (by decide) (backOf (W := 1) (rm36_0 l Z a0 hw [] w_EMPTY_MAP w_cache w_mir0 w_mir1 z_COMPACT_STRINGS b1 p0 h1 n0 O1 S A1 F_value_b1 g_b1) hZ (ww hw 255 rfl) (ww hw 48 rfl) (by decide) (by decide)) (g := (mkF m 28 #[vi p0] [(.int p0), (.ref b1), (.ref b1)])) rfl (by rw [hml]; rfl) (Steps.refl _) (a := b1) (argsL := [(.int p0)]) (rest := [(.ref b1)]) (lenOf pd_8 rfl) rfl (by show 2 * 0 + _ ≤ _; exact Nat.le_of_eq rfl) (hb hby d9_28) (fun _ _ => ⟨rfl, e1, (by decide : 1 + 0 ≤ _), (by decide : 1 + 0 ≤ _)⟩)
  dsimp only [Pt.U, Pt.locs, Pt.cells, Pt.slots] at X2 l2 y2 z2 st2 hQ2
  subst l2 y2 z2
  obtain ⟨rfl, Nq2, Kc2, P0_2, P1_2⟩ := hQ2
  have N2 := Fr.app N0 Nq2
  have O2 := O1.keep Kc2 (allS g_b1 all0)
  have K2 : Keep h0 T2.heap [] := K1.trans Kc2 (allS (Or.inr sz_b1) all0)
  obtain ⟨fs, hr, hrun, hended, hW, hsame⟩ := X2.leave (v := (some (.ref b1))) (fun h => by rw [hrt] at h; cases h)
  refine ⟨_, _, ?_, hrun, hended, _, _, rfl, ?_, ⟨_, rfl⟩, hW, hsame.mono (by decide) (by decide)⟩
  · show Steps p.tables e below (s₁.setTop (mkF m 0 #[vi p0] [])) _
    refine XS.iloadN X0.here hx rfl (hb hby d9_0) rfl ?_
    refine XS.bipush X0.here hx rfl (hb hby d9_1) ?_
    refine XS.icmpYes X0.here hx rfl (pc0 := 3) (pc' := 23) rfl (hb hby d9_3) rfl (tlt hc0).1 (by decide) (by decide) ?_
    refine st1 _ ?_
    refine XS.dup X1.here hx rfl (hb hby d9_26) rfl rfl ?_
    refine XS.iloadN X1.here hx rfl (hb hby d9_27) rfl ?_
    refine st2.trans ?_
    exact retOut X2 hx (t := (.object sC8)) (i := .areturn) hrt rfl (Or.inr (Or.inr (Or.inr (Or.inr ⟨rfl, rfl, rfl⟩)))) (hb hby d9_31) hr
  · show Q9_0 Z w_EMPTY_MAP w_cache w_mir0 w_mir1 z_COMPACT_STRINGS p0 h0 n0 (some (.ref b1)) T2.heap _
    exact (⟨b1, rfl, N2, K2, P0_2, P1_2, sz_b1⟩)
def Q9_1 (Z : State) (w_EMPTY_MAP w_cache w_mir0 w_mir1 : Addr) (z_COMPACT_STRINGS : Int32) (p0 : Int32) (h0 : Heap) (n0 : Nat) (v : Option Value) (h : Heap) (L : List Loc) : Prop := ∃ (r3 : Addr), v = (some (.ref r3)) ∧ Fr n0 L ∧ h = h0
theorem rm9_1 (l : Launch) (Z : State) (a0 : Array Value) (hw : HW Z a0) (ws : List Jvm.Cond) (w_EMPTY_MAP w_cache w_mir0 w_mir1 : Addr) (z_COMPACT_STRINGS : Int32) (p0 : Int32) (h0 : Heap) (n0 : Nat) (O0 : Old Z n0 h0) (S : SF Z w_EMPTY_MAP w_cache w_mir0 w_mir1 z_COMPACT_STRINGS) (hc0 : ¬ (p0 < (-128 : Int32))) (hc1 : ¬ ((127 : Int32) < p0)) :
    Pay l Z My9 ws jdk_33_method_22_code 1 (some (.object sC8)) #[(.int p0)] h0 ({ frames := 3, cells := 1, slots := 1, locals := 38 } : Room) (Q9_1 Z w_EMPTY_MAP w_cache w_mir0 w_mir1 z_COMPACT_STRINGS p0 h0 n0) := by
  obtain ⟨-, -, -, -, -, -, -, S_Integer_IntegerCache_high, S_w_cache, V_w_cache, -⟩ := id S
  refine own_body (plainFor_of_name pn_5) (L0 := #[vi p0]) (fun _ => by first | rfl | (simp [entryFrame, mkF, argsToLocals, Value.category]; done)) ?_
  intro p e s m below meth c s₁ hrt hlk hx hby hml hZ hown0 hnm X0 e0
  have hown : s.vm.findClass sC8 = some m.cls := hown0
  have N0 := Fr.nil n0
  have K0 : Keep h0 h0 [] := Keep.refl _ _
  obtain ⟨T1, X1, e1, st1⟩ := getS2 X0 hx hZ hown (host := "") (Or.inl (ww hw 50 rfl)) Via.refl e0 (S_Integer_IntegerCache_high.ext O0.2) (g := (mkF m 7 #[vi p0] [(.int p0)])) rfl (hb hby d9_7)
  obtain ⟨T2, X2, e2, st2⟩ := getS2 X1 hx hZ hown (host := "") (Or.inl (ww hw 52 rfl)) Via.refl e1 (S_w_cache.ext O0.2) (g := (mkF m 13 #[vi p0] [])) rfl (hb hby d9_13)
  obtain ⟨cl3, Ar3, Sz3, Gt3⟩ := V_w_cache
  have hin3 : ¬ ((p0 + (128 : Int32)) < 0 ∨ cl3.slots.size ≤ ((p0 + (128 : Int32))).toNatClampNeg) := by rw [Sz3]; exact own_cin hc0 hc1
  obtain ⟨r3, hr3⟩ := Gt3 _ hin3
  have Ax3 := Ar3.ext O0.2
  obtain ⟨fs, hr, hrun, hended, hW, hsame⟩ := X2.leave (v := (some (.ref r3))) (fun h => by rw [hrt] at h; cases h)
  refine ⟨_, _, ?_, hrun, hended, _, _, rfl, ?_, ⟨_, rfl⟩, hW, hsame.mono (by decide) (by decide)⟩
  · show Steps p.tables e below (s₁.setTop (mkF m 0 #[vi p0] [])) _
    refine XS.iloadN X0.here hx rfl (hb hby d9_0) rfl ?_
    refine XS.bipush X0.here hx rfl (hb hby d9_1) ?_
    refine XS.icmpNo X0.here hx rfl (hb hby d9_3) rfl (flt hc0).1 ?_
    refine XS.iloadN X0.here hx rfl (hb hby d9_6) rfl ?_
    refine st1 _ ?_
    refine XS.icmpNo X1.here hx rfl (hb hby d9_10) rfl (flt hc1).2.2.1 ?_
    refine st2 _ ?_
    refine XS.iloadN X2.here hx rfl (hb hby d9_16) rfl ?_
    show Steps p.tables e below (T2.setTop (mkF m 17 #[vi p0] [(.int p0), (.ref w_cache)])) _
    refine XS.sipush X2.here hx rfl (hb hby d9_17) ?_
    refine XS.iadd X2.here hx rfl (hb hby d9_20) rfl ?_
    refine X2.aaload hx (j := (p0 + (128 : Int32))) (v := .ref r3) (by rw [e2]; exact Ax3.1) (State.isArrayOf_alike hZ.alike Ar3.2.1) rfl Ar3.2.2 hin3 hr3 (g := (mkF m 21 #[vi p0] [(.int (p0 + (128 : Int32))), (.ref w_cache)])) rfl rfl (hb hby d9_21) _ ?_
    exact retOut X2 hx (t := (.object sC8)) (i := .areturn) hrt rfl (Or.inr (Or.inr (Or.inr (Or.inr ⟨rfl, rfl, rfl⟩)))) (hb hby d9_22) hr
  · show Q9_1 Z w_EMPTY_MAP w_cache w_mir0 w_mir1 z_COMPACT_STRINGS p0 h0 n0 (some (.ref r3)) T2.heap _
    exact (⟨r3, rfl, N0, e2⟩)
def Q9_2 (Z : State) (w_EMPTY_MAP w_cache w_mir0 w_mir1 : Addr) (z_COMPACT_STRINGS : Int32) (p0 : Int32) (h0 : Heap) (n0 : Nat) (v : Option Value) (h : Heap) (L : List Loc) : Prop := ∃ (b2 : Addr), v = (some (.ref b2)) ∧ Fr n0 L ∧ Keep h0 h [] ∧ Exa Z h b2 sC8 ∧ Fld Z h b2 sC8 "value" "I" (.int p0) ∧ h0.size ≤ b2
theorem rm9_2 (l : Launch) (Z : State) (a0 : Array Value) (hw : HW Z a0) (ws : List Jvm.Cond) (w_EMPTY_MAP w_cache w_mir0 w_mir1 : Addr) (z_COMPACT_STRINGS : Int32) (p0 : Int32) (h0 : Heap) (n0 : Nat) (O0 : Old Z n0 h0) (S : SF Z w_EMPTY_MAP w_cache w_mir0 w_mir1 z_COMPACT_STRINGS) (hc0 : ¬ (p0 < (-128 : Int32))) (hc1 : (127 : Int32) < p0) :
    Pay l Z My9 ws jdk_33_method_22_code 1 (some (.object sC8)) #[(.int p0)] h0 ({ frames := 3, cells := 1, slots := 1, locals := 38 } : Room) (Q9_2 Z w_EMPTY_MAP w_cache w_mir0 w_mir1 z_COMPACT_STRINGS p0 h0 n0) := by
  obtain ⟨-, -, -, -, -, -, -, S_Integer_IntegerCache_high, -⟩ := id S
  refine own_body (plainFor_of_name pn_5) (L0 := #[vi p0]) (fun _ => by first | rfl | (simp [entryFrame, mkF, argsToLocals, Value.category]; done)) ?_
  intro p e s m below meth c s₁ hrt hlk hx hby hml hZ hown0 hnm X0 e0
  have hown : s.vm.findClass sC8 = some m.cls := hown0
  have N0 := Fr.nil n0
  have K0 : Keep h0 h0 [] := Keep.refl _ _
  obtain ⟨T1, X1, e1, st1⟩ := getS2 X0 hx hZ hown (host := "") (Or.inl (ww hw 50 rfl)) Via.refl e0 (S_Integer_IntegerCache_high.ext O0.2) (g := (mkF m 7 #[vi p0] [(.int p0)])) rfl (hb hby d9_7)
  obtain ⟨T2, h2, X2, e2, E2, A2, D2, -, st2⟩ := newO X1 hx hZ hown (ww hw 250 rfl) (ww hw 251 rfl) (ww hw 48 rfl) e1 (g := (mkF m 23 #[vi p0] [])) rfl (hb hby d9_23) (by decide) (by decide)
  obtain ⟨b2, qs2⟩ : ∃ z, z = h0.size := ⟨_, rfl⟩
  rw [← qs2] at A2 D2 st2
  have g_b2 : n0 ≤ b2 := Nat.le_trans (own_old O0) (Nat.le_of_eq qs2.symm)
  have sz_b2 : h0.size ≤ b2 := Nat.le_trans K0.1 (Nat.le_of_eq qs2.symm)
  have O2 := O0.ext E2
  have K2 : Keep h0 h2 [] := K0.ext E2
  have F_value_b2 : Fld Z h2 b2 sC8 "value" "I" (.int 0) := D2 (Or.inr (ww hw 264 rfl)) (ty := .int) (by decide)
  obtain ⟨_, _, ⟨T3, L3, k3, n3⟩, -, X3, ⟨Lc3, hQ3, l3, y3, z3⟩, st3⟩ := X2.specialBack hx (y := (⟨sC8, "<init>", "(I)V"⟩ : MethodName)) rfl hown (mvT hZ (ww hw 252 rfl)) (mvT hZ (ww hw 253 rfl)) (mvT hZ (ww hw 255 rfl)) (by decide) (backOf (W := 1) (rm36_0 l Z a0 hw [] w_EMPTY_MAP w_cache w_mir0 w_mir1 z_COMPACT_STRINGS b2 p0 h2 n0 O2 S A2 F_value_b2 g_b2) hZ (ww hw 255 rfl) (ww hw 48 rfl) (by decide) (by decide)) (g := (mkF m 28 #[vi p0] [(.int p0), (.ref b2), (.ref b2)])) rfl (by rw [hml]; rfl) (Steps.refl _) (a := b2) (argsL := [(.int p0)]) (rest := [(.ref b2)]) (lenOf pd_8 rfl) rfl (by show 2 * 0 + _ ≤ _; exact Nat.le_of_eq rfl) (hb hby d9_28) (fun _ _ => ⟨rfl, e2, (by decide : 1 + 0 ≤ _), (by decide : 1 + 0 ≤ _)⟩)
  dsimp only [Pt.U, Pt.locs, Pt.cells, Pt.slots] at X3 l3 y3 z3 st3 hQ3
  subst l3 y3 z3
  obtain ⟨rfl, Nq3, Kc3, P0_3, P1_3⟩ := hQ3
  have N3 := Fr.app N0 Nq3
  have O3 := O2.keep Kc3 (allS g_b2 all0)
  have K3 : Keep h0 T3.heap [] := K2.trans Kc3 (allS (Or.inr sz_b2) all0)
  obtain ⟨fs, hr, hrun, hended, hW, hsame⟩ := X3.leave (v := (some (.ref b2))) (fun h => by rw [hrt] at h; cases h)
  refine ⟨_, _, ?_, hrun, hended, _, _, rfl, ?_, ⟨_, rfl⟩, hW, hsame.mono (by decide) (by decide)⟩
  · show Steps p.tables e below (s₁.setTop (mkF m 0 #[vi p0] [])) _
    refine XS.iloadN X0.here hx rfl (hb hby d9_0) rfl ?_
    refine XS.bipush X0.here hx rfl (hb hby d9_1) ?_
    refine XS.icmpNo X0.here hx rfl (hb hby d9_3) rfl (flt hc0).1 ?_
    refine XS.iloadN X0.here hx rfl (hb hby d9_6) rfl ?_
    refine st1 _ ?_
    refine XS.icmpYes X1.here hx rfl (pc0 := 10) (pc' := 23) rfl (hb hby d9_10) rfl (tlt hc1).2.2.1 (by decide) (by decide) ?_
    refine st2 _ ?_
    refine XS.dup X2.here hx rfl (hb hby d9_26) rfl rfl ?_
    show Steps p.tables e below (T2.setTop (mkF m 27 #[vi p0] [(.ref b2), (.ref b2)])) _
    refine XS.iloadN X2.here hx rfl (hb hby d9_27) rfl ?_
    refine st3.trans ?_
    exact retOut X3 hx (t := (.object sC8)) (i := .areturn) hrt rfl (Or.inr (Or.inr (Or.inr (Or.inr ⟨rfl, rfl, rfl⟩)))) (hb hby d9_31) hr
  · show Q9_2 Z w_EMPTY_MAP w_cache w_mir0 w_mir1 z_COMPACT_STRINGS p0 h0 n0 (some (.ref b2)) T3.heap _
    exact (⟨b2, rfl, N3, K3, P0_3, P1_3, sz_b2⟩)
def Qb0 (h0 : Heap) (n0 : Nat) (v : Option Value) (h : Heap) (L : List Loc) : Prop := ∃ (r : Addr), v = some (.ref r) ∧ Fr n0 L ∧ Keep h0 h []
theorem bm0 (l : Launch) (Z : State) (a0 : Array Value) (hw : HW Z a0) (ws : List Jvm.Cond) (w_EMPTY_MAP w_cache w_mir0 w_mir1 : Addr) (z_COMPACT_STRINGS : Int32) (p0 : Int32) (h0 : Heap) (n0 : Nat) (O0 : Old Z n0 h0) (S : SF Z w_EMPTY_MAP w_cache w_mir0 w_mir1 z_COMPACT_STRINGS) :
    Pay l Z My9 ws jdk_33_method_22_code 1 (some (.object sC8)) #[(.int p0)] h0 ({ frames := 3, cells := 1, slots := 1, locals := 38 } : Room) (Qb0 h0 n0) := by
  by_cases hm0 : p0 < (-128 : Int32)
  · refine MetFree.mono (rm9_0 l Z a0 hw ws w_EMPTY_MAP w_cache w_mir0 w_mir1 z_COMPACT_STRINGS p0 h0 n0 O0 S hm0) (fun _ _ q => q) (fun _ _ _ _ _ q => q) ?_
    rintro _ U o U' - ⟨v, L, rfl, ⟨f0, rfl, N, K, q0, q1, q2⟩, fe⟩
    exact ⟨_, L, rfl, ⟨f0, rfl, N, K⟩, fe⟩
  · by_cases hm1 : (127 : Int32) < p0
    · refine MetFree.mono (rm9_2 l Z a0 hw ws w_EMPTY_MAP w_cache w_mir0 w_mir1 z_COMPACT_STRINGS p0 h0 n0 O0 S hm0 hm1) (fun _ _ q => q) (fun _ _ _ _ _ q => q) ?_
      rintro _ U o U' - ⟨v, L, rfl, ⟨f0, rfl, N, K, q0, q1, q2⟩, fe⟩
      exact ⟨_, L, rfl, ⟨f0, rfl, N, K⟩, fe⟩
    · refine MetFree.mono (rm9_1 l Z a0 hw ws w_EMPTY_MAP w_cache w_mir0 w_mir1 z_COMPACT_STRINGS p0 h0 n0 O0 S hm0 hm1) (fun _ _ q => q) (fun _ _ _ _ _ q => q) ?_
      rintro _ U o U' - ⟨v, L, rfl, ⟨r0, rfl, N, K⟩, fe⟩
      exact ⟨_, L, rfl, ⟨r0, rfl, N, by rw [K]; exact Keep.refl _ _⟩, fe⟩
theorem pd_9 : parseMethodDescriptor "(I)Ljava/lang/Integer;" = some ⟨[.int], some (.object sC8)⟩ := by decide +kernel
theorem d10_0 : decode prog_19_method_4_code 0 = .ok (.aload_n 1, 1) := by decide +kernel
theorem d10_1 : decode prog_19_method_4_code 1 = .ok (.ldc 36, 2) := by decide +kernel
theorem d10_3 : decode prog_19_method_4_code 3 = .ok (.invokestatic 28, 3) := by decide +kernel
theorem pn_7 : plainName "java/util/Objects" = true := by first | (simp [plainName, overriddenIn]; done) | decide +kernel
theorem d11_0 : decode jdk_31_method_11_code 0 = .ok (.aload_n 0, 1) := by decide +kernel
theorem d11_1 : decode jdk_31_method_11_code 1 = .ok (.ifnonnull 12, 3) := by decide +kernel
theorem d11_13 : decode jdk_31_method_11_code 13 = .ok (.aload_n 0, 1) := by decide +kernel
theorem d11_14 : decode jdk_31_method_11_code 14 = .ok (.areturn, 1) := by decide +kernel
def Q11_0 (Z : State) (w_EMPTY_MAP w_cache w_mir0 w_mir1 : Addr) (z_COMPACT_STRINGS : Int32) (o0 : Addr) (o1 : Addr) (o2 : Addr) (o3 : Addr) (kk_o1 : ClassId) (kk_o3 : ClassId) (p0 : Int32) (h0 : Heap) (n0 : Nat) (v : Option Value) (h : Heap) (L : List Loc) : Prop := v = (some (.ref o0)) ∧ Fr n0 L ∧ h = h0
theorem rm11_0 (l : Launch) (Z : State) (a0 : Array Value) (hw : HW Z a0) (ws : List Jvm.Cond) (w_EMPTY_MAP w_cache w_mir0 w_mir1 : Addr) (z_COMPACT_STRINGS : Int32) (o0 : Addr) (o1 : Addr) (o2 : Addr) (o3 : Addr) (kk_o1 : ClassId) (kk_o3 : ClassId) (p0 : Int32) (h0 : Heap) (n0 : Nat) (O0 : Old Z n0 h0) (S : SF Z w_EMPTY_MAP w_cache w_mir0 w_mir1 z_COMPACT_STRINGS) :
    Pay l Z (⟨"java/util/Objects", "requireNonNull", "(Ljava/lang/Object;Ljava/lang/String;)Ljava/lang/Object;"⟩ : MethodName) ws jdk_31_method_11_code 2 (some (.object sC5)) #[(.ref o0), (.ref o2)] h0 ({ frames := 0, cells := 0, slots := 0, locals := 0 } : Room) (Q11_0 Z w_EMPTY_MAP w_cache w_mir0 w_mir1 z_COMPACT_STRINGS o0 o1 o2 o3 kk_o1 kk_o3 p0 h0 n0) := by
  refine own_body (plainFor_of_name pn_7) (L0 := #[va o0, va o2]) (fun _ => by first | rfl | (simp [entryFrame, mkF, argsToLocals, Value.category]; done)) ?_
  intro p e s m below meth c s₁ hrt hlk hx hby hml hZ hown0 hnm X0 e0
  have hown : s.vm.findClass "java/util/Objects" = some m.cls := hown0
  have N0 := Fr.nil n0
  have K0 : Keep h0 h0 [] := Keep.refl _ _
  obtain ⟨fs, hr, hrun, hended, hW, hsame⟩ := X0.leave (v := (some (.ref o0))) (fun h => by rw [hrt] at h; cases h)
  refine ⟨_, _, ?_, hrun, hended, _, _, rfl, ?_, ⟨_, rfl⟩, hW, hsame.mono (by decide) (by decide)⟩
  · show Steps p.tables e below (s₁.setTop (mkF m 0 #[va o0, va o2] [])) _
    refine XS.aloadN X0.here hx rfl (hb hby d11_0) rfl rfl ?_
    refine XS.ifnonnullYes X0.here hx rfl (pc0 := 1) (pc' := 13) rfl (hb hby d11_1) rfl (by decide) (by decide) ?_
    refine XS.aloadN X0.here hx rfl (hb hby d11_13) rfl rfl ?_
    exact retOut X0 hx (t := (.object sC5)) (i := .areturn) hrt rfl (Or.inr (Or.inr (Or.inr (Or.inr ⟨rfl, rfl, rfl⟩)))) (hb hby d11_14) hr
  · show Q11_0 Z w_EMPTY_MAP w_cache w_mir0 w_mir1 z_COMPACT_STRINGS o0 o1 o2 o3 kk_o1 kk_o3 p0 h0 n0 (some (.ref o0)) s₁.heap _
    exact (⟨rfl, N0, e0⟩)
theorem pd_10 : parseMethodDescriptor "(Ljava/lang/Object;Ljava/lang/String;)Ljava/lang/Object;" = some ⟨[(.object sC5), (.object sC2)], some (.object sC5)⟩ := by decide +kernel
theorem d10_6 : decode prog_19_method_4_code 6 = .ok (.pop, 1) := by decide +kernel
theorem d10_7 : decode prog_19_method_4_code 7 = .ok (.aload_n 1, 1) := by decide +kernel
theorem d10_8 : decode prog_19_method_4_code 8 = .ok (.ldc 38, 2) := by decide +kernel
theorem d10_10 : decode prog_19_method_4_code 10 = .ok (.invokevirtual 40, 3) := by decide +kernel
theorem d12_0 : decode jdk_42_method_66_code 0 = .ok (.aload_n 0, 1) := by decide +kernel
theorem d12_1 : decode jdk_42_method_66_code 1 = .ok (.aload_n 1, 1) := by decide +kernel
theorem d12_2 : decode jdk_42_method_66_code 2 = .ok (.if_acmp .ne 5, 3) := by decide +kernel
theorem d12_7 : decode jdk_42_method_66_code 7 = .ok (.aload_n 1, 1) := by decide +kernel
theorem d12_8 : decode jdk_42_method_66_code 8 = .ok (.instanceof 10, 3) := by decide +kernel
theorem d12_11 : decode jdk_42_method_66_code 11 = .ok (.ifCond .eq 43, 3) := by decide +kernel
theorem d12_14 : decode jdk_42_method_66_code 14 = .ok (.aload_n 1, 1) := by decide +kernel
theorem d12_15 : decode jdk_42_method_66_code 15 = .ok (.checkcast 10, 3) := by decide +kernel
theorem d12_18 : decode jdk_42_method_66_code 18 = .ok (.astore_n 2, 1) := by decide +kernel
theorem d12_19 : decode jdk_42_method_66_code 19 = .ok (.getstatic 38, 3) := by decide +kernel
theorem d12_22 : decode jdk_42_method_66_code 22 = .ok (.ifCond .eq 14, 3) := by decide +kernel
theorem d12_25 : decode jdk_42_method_66_code 25 = .ok (.aload_n 0, 1) := by decide +kernel
theorem d12_26 : decode jdk_42_method_66_code 26 = .ok (.getfield 15, 3) := by decide +kernel
theorem d12_29 : decode jdk_42_method_66_code 29 = .ok (.aload_n 2, 1) := by decide +kernel
theorem d12_30 : decode jdk_42_method_66_code 30 = .ok (.getfield 15, 3) := by decide +kernel
theorem d12_33 : decode jdk_42_method_66_code 33 = .ok (.if_icmp .ne 21, 3) := by decide +kernel
theorem d12_36 : decode jdk_42_method_66_code 36 = .ok (.aload_n 0, 1) := by decide +kernel
theorem d12_37 : decode jdk_42_method_66_code 37 = .ok (.getfield 9, 3) := by decide +kernel
theorem d12_40 : decode jdk_42_method_66_code 40 = .ok (.aload_n 2, 1) := by decide +kernel
theorem d12_41 : decode jdk_42_method_66_code 41 = .ok (.getfield 9, 3) := by decide +kernel
theorem d12_44 : decode jdk_42_method_66_code 44 = .ok (.invokestatic 541, 3) := by decide +kernel
theorem d13_0 : decode jdk_43_method_13_code 0 = .ok (.aload_n 0, 1) := by decide +kernel
theorem d13_1 : decode jdk_43_method_13_code 1 = .ok (.arraylength, 1) := by decide +kernel
theorem d13_2 : decode jdk_43_method_13_code 2 = .ok (.aload_n 1, 1) := by decide +kernel
theorem d13_3 : decode jdk_43_method_13_code 3 = .ok (.arraylength, 1) := by decide +kernel
theorem d13_4 : decode jdk_43_method_13_code 4 = .ok (.if_icmp .ne 30, 3) := by decide +kernel
theorem d13_34 : decode jdk_43_method_13_code 34 = .ok (.iconst 0, 1) := by decide +kernel
theorem d13_35 : decode jdk_43_method_13_code 35 = .ok (.ireturn, 1) := by decide +kernel
def Q13_0 (Z : State) (w_EMPTY_MAP w_cache w_mir0 w_mir1 : Addr) (z_COMPACT_STRINGS : Int32) (o0 : Addr) (o1 : Addr) (kk_o0 : ClassId) (kk_o1 : ClassId) (p0 : Int32) (h0 : Heap) (n0 : Nat) (v : Option Value) (h : Heap) (L : List Loc) : Prop := v = (some (.int 0)) ∧ Fr n0 L ∧ h = h0
theorem rm13_0 (l : Launch) (Z : State) (a0 : Array Value) (hw : HW Z a0) (ws : List Jvm.Cond) (w_EMPTY_MAP w_cache w_mir0 w_mir1 : Addr) (z_COMPACT_STRINGS : Int32) (o0 : Addr) (o1 : Addr) (kk_o0 : ClassId) (kk_o1 : ClassId) (p0 : Int32) (h0 : Heap) (n0 : Nat) (O0 : Old Z n0 h0) (S : SF Z w_EMPTY_MAP w_cache w_mir0 w_mir1 z_COMPACT_STRINGS) (V_o0 : Arv Z h0 o0 kk_o0 .byte (1 : Int32) [(.int p0)] (.int 0)) (V_o1 : Arv Z h0 o1 kk_o1 .byte (2 : Int32) [(.int 111), (.int 107)] (.int 0)) :
    Pay l Z My13 ws jdk_43_method_13_code 3 (some .boolean) #[(.ref o0), (.ref o1)] h0 ({ frames := 0, cells := 0, slots := 0, locals := 0 } : Room) (Q13_0 Z w_EMPTY_MAP w_cache w_mir0 w_mir1 z_COMPACT_STRINGS o0 o1 kk_o0 kk_o1 p0 h0 n0) := by
  refine own_body (plainFor_of_name pn_4) (L0 := #[va o0, va o1, uu]) (fun _ => by first | rfl | (simp [entryFrame, mkF, argsToLocals, Value.category]; done)) ?_
  intro p e s m below meth c s₁ hrt hlk hx hby hml hZ hown0 hnm X0 e0
  have hown : s.vm.findClass sC11 = some m.cls := hown0
  have N0 := Fr.nil n0
  have K0 : Keep h0 h0 [] := Keep.refl _ _
  obtain ⟨cl1, Ar1, qk1, Sz1, Ng1, Hh1, Gg1⟩ := id V_o0
  obtain ⟨cl2, Ar2, qk2, Sz2, Ng2, Hh2, Gg2⟩ := id V_o1
  obtain ⟨fs, hr, hrun, hended, hW, hsame⟩ := X0.leave (v := (some (.int 0))) (fun h => by rw [hrt] at h; cases h)
  refine ⟨_, _, ?_, hrun, hended, _, _, rfl, ?_, ⟨_, rfl⟩, hW, hsame.mono (by decide) (by decide)⟩
  · show Steps p.tables e below (s₁.setTop (mkF m 0 #[va o0, va o1, uu] [])) _
    refine XS.aloadN X0.here hx rfl (hb hby d13_0) rfl rfl ?_
    refine X0.arraylength hx (by rw [e0]; exact Ar1.1) (State.isArrayOf_alike hZ.alike Ar1.2.1) (g := (mkF m 1 #[va o0, va o1, uu] [(.ref o0)])) rfl rfl (hb hby d13_1) _ ?_
    rw [len_of Sz1 Ng1]
    refine XS.aloadN X0.here hx rfl (hb hby d13_2) rfl rfl ?_
    refine X0.arraylength hx (by rw [e0]; exact Ar2.1) (State.isArrayOf_alike hZ.alike Ar2.2.1) (g := (mkF m 3 #[va o0, va o1, uu] [(.ref o1), (.int 1)])) rfl rfl (hb hby d13_3) _ ?_
    rw [len_of Sz2 Ng2]
    refine XS.icmpYes X0.here hx rfl (pc0 := 4) (pc' := 34) rfl (hb hby d13_4) rfl (feq (by decide : ¬ ((1 : Int32) = (2 : Int32)))).2 (by decide) (by decide) ?_
    refine XS.iconst X0.here hx rfl (hb hby d13_34) ?_
    exact retN X0 hx (t := .boolean) hrt (by simp) (hb hby d13_35) hr
  · show Q13_0 Z w_EMPTY_MAP w_cache w_mir0 w_mir1 z_COMPACT_STRINGS o0 o1 kk_o0 kk_o1 p0 h0 n0 (some (.int 0)) s₁.heap _
    exact (⟨rfl, N0, e0⟩)
theorem pd_11 : parseMethodDescriptor "([B[B)Z" = some ⟨[(.array .byte), (.array .byte)], some .boolean⟩ := by decide +kernel
theorem d12_47 : decode jdk_42_method_66_code 47 = .ok (.ifCond .eq 7, 3) := by decide +kernel
theorem d12_54 : decode jdk_42_method_66_code 54 = .ok (.iconst 0, 1) := by decide +kernel
theorem d12_55 : decode jdk_42_method_66_code 55 = .ok (.ireturn, 1) := by decide +kernel
def Q12_0 (Z : State) (w_EMPTY_MAP w_cache w_mir0 w_mir1 : Addr) (z_COMPACT_STRINGS : Int32) (o0 : Addr) (o1 : Addr) (o2 : Addr) (o3 : Addr) (kk_o1 : ClassId) (kk_o3 : ClassId) (p0 : Int32) (h0 : Heap) (n0 : Nat) (v : Option Value) (h : Heap) (L : List Loc) : Prop := v = (some (.int 0)) ∧ Fr n0 L ∧ h = h0
theorem rm12_0 (l : Launch) (Z : State) (a0 : Array Value) (hw : HW Z a0) (ws : List Jvm.Cond) (w_EMPTY_MAP w_cache w_mir0 w_mir1 : Addr) (z_COMPACT_STRINGS : Int32) (o0 : Addr) (o1 : Addr) (o2 : Addr) (o3 : Addr) (kk_o1 : ClassId) (kk_o3 : ClassId) (p0 : Int32) (h0 : Heap) (n0 : Nat) (O0 : Old Z n0 h0) (S : SF Z w_EMPTY_MAP w_cache w_mir0 w_mir1 z_COMPACT_STRINGS) (F_coder_o0 : Fld Z h0 o0 sC2 "coder" "B" (.int 0)) (F_value_o0 : Fld Z h0 o0 sC2 "value" "[B" (.ref o1)) (V_o1 : Arv Z h0 o1 kk_o1 .byte (1 : Int32) [(.int p0)] (.int 0)) (E_o2 : Exa Z h0 o2 sC2) (F_coder_o2 : Fld Z h0 o2 sC2 "coder" "B" (.int 0)) (F_value_o2 : Fld Z h0 o2 sC2 "value" "[B" (.ref o3)) (V_o3 : Arv Z h0 o3 kk_o3 .byte (2 : Int32) [(.int 111), (.int 107)] (.int 0)) (ne_o0_o2 : o0 ≠ o2) :
    Pay l Z My12 ws jdk_42_method_66_code 3 (some .boolean) #[(.ref o0), (.ref o2)] h0 ({ frames := 1, cells := 0, slots := 0, locals := 14 } : Room) (Q12_0 Z w_EMPTY_MAP w_cache w_mir0 w_mir1 z_COMPACT_STRINGS o0 o1 o2 o3 kk_o1 kk_o3 p0 h0 n0) := by
  obtain ⟨-, -, -, -, -, S_z_COMPACT_STRINGS, hz_z_COMPACT_STRINGS, -⟩ := id S
  refine own_body (plainFor_of_name pn_3) (L0 := #[va o0, va o2, uu]) (fun _ => by first | rfl | (simp [entryFrame, mkF, argsToLocals, Value.category]; done)) ?_
  intro p e s m below meth c s₁ hrt hlk hx hby hml hZ hown0 hnm X0 e0
  have hown : s.vm.findClass sC2 = some m.cls := hown0
  have N0 := Fr.nil n0
  have K0 : Keep h0 h0 [] := Keep.refl _ _
  obtain ⟨T1, X1, e1, st1⟩ := instY X0 hx hZ hown (ww hw 31 rfl) e0 (Ins.self E_o2) (g := (mkF m 8 #[va o0, va o2, uu] [(.ref o2)])) rfl rfl (hb hby d12_8)
  obtain ⟨T2, X2, e2, st2⟩ := castY X1 hx hZ hown (ww hw 31 rfl) e1 (Ins.self E_o2) (g := (mkF m 15 #[va o0, va o2, uu] [(.ref o2)])) rfl rfl (hb hby d12_15)
  obtain ⟨T3, X3, e3, st3⟩ := getS2 X2 hx hZ hown (host := "") (Or.inl (ww hw 26 rfl)) Via.refl e2 (S_z_COMPACT_STRINGS.ext O0.2) (g := (mkF m 19 #[va o0, va o2, va o2] [])) rfl (hb hby d12_19)
  obtain ⟨T4, X4, e4, st4⟩ := getF X3 hx hZ hown (host := "") (Or.inl (ww hw 44 rfl)) Via.refl e3 F_coder_o0 (g := (mkF m 26 #[va o0, va o2, va o2] [(.ref o0)])) rfl rfl (hb hby d12_26)
  obtain ⟨T5, X5, e5, st5⟩ := getF X4 hx hZ hown (host := "") (Or.inl (ww hw 44 rfl)) Via.refl e4 F_coder_o2 (g := (mkF m 30 #[va o0, va o2, va o2] [(.ref o2), (.int 0)])) rfl rfl (hb hby d12_30)
  obtain ⟨T6, X6, e6, st6⟩ := getF X5 hx hZ hown (host := "") (Or.inl (ww hw 42 rfl)) Via.refl e5 F_value_o0 (g := (mkF m 37 #[va o0, va o2, va o2] [(.ref o0)])) rfl rfl (hb hby d12_37)
  obtain ⟨T7, X7, e7, st7⟩ := getF X6 hx hZ hown (host := "") (Or.inl (ww hw 42 rfl)) Via.refl e6 F_value_o2 (g := (mkF m 41 #[va o0, va o2, va o2] [(.ref o2), (.ref o1)])) rfl rfl (hb hby d12_41)
  obtain ⟨_, _, ⟨T8, L8, k8, n8⟩, -, X8, ⟨Lc8, hQ8, l8, y8, z8⟩, st8⟩ := Jvm.LawKit.callS X7 hx (y := My13) hown (mvT hZ (ww hw 71 rfl)) (mvT hZ (ww hw 72 rfl)) (mvT hZ (ww hw 29 rfl)) (mvT hZ (ww hw 73 rfl)) (by decide) (backOf (W := 0) (rm13_0 l Z a0 hw [] w_EMPTY_MAP w_cache w_mir0 w_mir1 z_COMPACT_STRINGS o1 o3 kk_o1 kk_o3 p0 h0 n0 O0 S V_o1 V_o3) hZ (ww hw 73 rfl) (ww hw 29 rfl) (by decide) (by decide)) (g := (mkF m 44 #[va o0, va o2, va o2] [(.ref o3), (.ref o1)])) rfl (by rw [hml]; rfl) (argsL := [(.ref o1), (.ref o3)]) (rest := []) (lenOf pd_11 rfl) rfl (by show 2 * 0 + _ ≤ _; exact Nat.le_of_eq rfl) (hb hby d12_44) (fun _ _ => ⟨rfl, e7, (by decide : 0 + 0 ≤ _), (by decide : 0 + 0 ≤ _)⟩)
  dsimp only [Pt.U, Pt.locs, Pt.cells, Pt.slots] at X8 l8 y8 z8 st8 hQ8
  subst l8 y8 z8
  obtain ⟨rfl, Nq8, e8⟩ := hQ8
  have N8 := Fr.app N0 Nq8
  obtain ⟨fs, hr, hrun, hended, hW, hsame⟩ := X8.leave (v := (some (.int 0))) (fun h => by rw [hrt] at h; cases h)
  refine ⟨_, _, ?_, hrun, hended, _, _, rfl, ?_, ⟨_, rfl⟩, hW, hsame.mono (by decide) (by decide)⟩
  · show Steps p.tables e below (s₁.setTop (mkF m 0 #[va o0, va o2, uu] [])) _
    refine XS.aloadN X0.here hx rfl (hb hby d12_0) rfl rfl ?_
    refine XS.aloadN X0.here hx rfl (hb hby d12_1) rfl rfl ?_
    refine Jvm.RoadKit.acmp (g := (mkF m 2 #[va o0, va o2, uu] [(.ref o2), (.ref o0)])) X0 hx rfl rfl rfl (pc0 := 2) (pc' := 7) (same := false) rfl (hb hby d12_2) rfl (decide_eq_false fun q => ne_o0_o2 (Value.ref.inj q)) (by decide) (by decide) ?_
    refine XS.aloadN X0.here hx rfl (hb hby d12_7) rfl rfl ?_
    refine st1 _ ?_
    refine XS.ifNo X1.here hx rfl (hb hby d12_11) rfl ((if0 _ _).trans (feq (by decide : ¬ ((1 : Int32) = (0 : Int32)))).1) ?_
    refine XS.aloadN X1.here hx rfl (hb hby d12_14) rfl rfl ?_
    refine st2 _ ?_
    show Steps p.tables e below (T2.setTop (mkF m 18 #[va o0, va o2, uu] [(.ref o2)])) _
    refine XS.astoreN X2.here hx rfl (hb hby d12_18) rfl rfl (l' := #[va o0, va o2, va o2]) rfl ?_
    refine st3 _ ?_
    refine XS.ifNo X3.here hx rfl (hb hby d12_22) rfl ((if0 _ _).trans (feq hz_z_COMPACT_STRINGS).1) ?_
    refine XS.aloadN X3.here hx rfl (hb hby d12_25) rfl rfl ?_
    refine st4 _ ?_
    refine XS.aloadN X4.here hx rfl (hb hby d12_29) rfl rfl ?_
    refine st5 _ ?_
    refine XS.icmpNo X5.here hx rfl (hb hby d12_33) rfl (teq (by decide : (0 : Int32) = (0 : Int32))).2 ?_
    show Steps p.tables e below (T5.setTop (mkF m 36 #[va o0, va o2, va o2] [])) _
    refine XS.aloadN X5.here hx rfl (hb hby d12_36) rfl rfl ?_
    refine st6 _ ?_
    refine XS.aloadN X6.here hx rfl (hb hby d12_40) rfl rfl ?_
    refine st7 _ ?_
    refine st8 _ ?_
    refine XS.ifYes X8.here hx rfl (pc0 := 47) (pc' := 54) rfl (hb hby d12_47) rfl ((if0 _ _).trans (teq (by decide : (0 : Int32) = (0 : Int32))).1) (by decide) (by decide) ?_
    refine XS.iconst X8.here hx rfl (hb hby d12_54) ?_
    exact retN X8 hx (t := .boolean) hrt (by simp) (hb hby d12_55) hr
  · show Q12_0 Z w_EMPTY_MAP w_cache w_mir0 w_mir1 z_COMPACT_STRINGS o0 o1 o2 o3 kk_o1 kk_o3 p0 h0 n0 (some (.int 0)) T8.heap _
    exact (⟨rfl, N8, e8⟩)
theorem pd_12 : parseMethodDescriptor "(Ljava/lang/Object;)Z" = some ⟨[(.object sC5)], some .boolean⟩ := by decide +kernel
theorem d10_13 : decode prog_19_method_4_code 13 = .ok (.ifCond .ne 12, 3) := by decide +kernel
theorem d10_16 : decode prog_19_method_4_code 16 = .ok (.aload_n 1, 1) := by decide +kernel
theorem d10_17 : decode prog_19_method_4_code 17 = .ok (.ldc 44, 2) := by decide +kernel
theorem d10_19 : decode prog_19_method_4_code 19 = .ok (.invokevirtual 40, 3) := by decide +kernel
def Q13_1 (Z : State) (w_EMPTY_MAP w_cache w_mir0 w_mir1 : Addr) (z_COMPACT_STRINGS : Int32) (o0 : Addr) (o1 : Addr) (kk_o0 : ClassId) (kk_o1 : ClassId) (p0 : Int32) (h0 : Heap) (n0 : Nat) (v : Option Value) (h : Heap) (L : List Loc) : Prop := v = (some (.int 0)) ∧ Fr n0 L ∧ h = h0
theorem rm13_1 (l : Launch) (Z : State) (a0 : Array Value) (hw : HW Z a0) (ws : List Jvm.Cond) (w_EMPTY_MAP w_cache w_mir0 w_mir1 : Addr) (z_COMPACT_STRINGS : Int32) (o0 : Addr) (o1 : Addr) (kk_o0 : ClassId) (kk_o1 : ClassId) (p0 : Int32) (h0 : Heap) (n0 : Nat) (O0 : Old Z n0 h0) (S : SF Z w_EMPTY_MAP w_cache w_mir0 w_mir1 z_COMPACT_STRINGS) (V_o0 : Arv Z h0 o0 kk_o0 .byte (1 : Int32) [(.int p0)] (.int 0)) (V_o1 : Arv Z h0 o1 kk_o1 .byte (5 : Int32) [(.int 101), (.int 114), (.int 114), (.int 111), (.int 114)] (.int 0)) :
    Pay l Z My13 ws jdk_43_method_13_code 3 (some .boolean) #[(.ref o0), (.ref o1)] h0 ({ frames := 0, cells := 0, slots := 0, locals := 0 } : Room) (Q13_1 Z w_EMPTY_MAP w_cache w_mir0 w_mir1 z_COMPACT_STRINGS o0 o1 kk_o0 kk_o1 p0 h0 n0) := by
  refine own_body (plainFor_of_name pn_4) (L0 := #[va o0, va o1, uu]) (fun _ => by first | rfl | (simp [entryFrame, mkF, argsToLocals, Value.category]; done)) ?_
  intro p e s m below meth c s₁ hrt hlk hx hby hml hZ hown0 hnm X0 e0
  have hown : s.vm.findClass sC11 = some m.cls := hown0
  have N0 := Fr.nil n0
  have K0 : Keep h0 h0 [] := Keep.refl _ _
  obtain ⟨cl1, Ar1, qk1, Sz1, Ng1, Hh1, Gg1⟩ := id V_o0
  obtain ⟨cl2, Ar2, qk2, Sz2, Ng2, Hh2, Gg2⟩ := id V_o1
  obtain ⟨fs, hr, hrun, hended, hW, hsame⟩ := X0.leave (v := (some (.int 0))) (fun h => by rw [hrt] at h; cases h)
  refine ⟨_, _, ?_, hrun, hended, _, _, rfl, ?_, ⟨_, rfl⟩, hW, hsame.mono (by decide) (by decide)⟩
  · show Steps p.tables e below (s₁.setTop (mkF m 0 #[va o0, va o1, uu] [])) _
    refine XS.aloadN X0.here hx rfl (hb hby d13_0) rfl rfl ?_
    refine X0.arraylength hx (by rw [e0]; exact Ar1.1) (State.isArrayOf_alike hZ.alike Ar1.2.1) (g := (mkF m 1 #[va o0, va o1, uu] [(.ref o0)])) rfl rfl (hb hby d13_1) _ ?_
    rw [len_of Sz1 Ng1]
    refine XS.aloadN X0.here hx rfl (hb hby d13_2) rfl rfl ?_
    refine X0.arraylength hx (by rw [e0]; exact Ar2.1) (State.isArrayOf_alike hZ.alike Ar2.2.1) (g := (mkF m 3 #[va o0, va o1, uu] [(.ref o1), (.int 1)])) rfl rfl (hb hby d13_3) _ ?_
    rw [len_of Sz2 Ng2]
    refine XS.icmpYes X0.here hx rfl (pc0 := 4) (pc' := 34) rfl (hb hby d13_4) rfl (feq (by decide : ¬ ((1 : Int32) = (5 : Int32)))).2 (by decide) (by decide) ?_
    refine XS.iconst X0.here hx rfl (hb hby d13_34) ?_
    exact retN X0 hx (t := .boolean) hrt (by simp) (hb hby d13_35) hr
  · show Q13_1 Z w_EMPTY_MAP w_cache w_mir0 w_mir1 z_COMPACT_STRINGS o0 o1 kk_o0 kk_o1 p0 h0 n0 (some (.int 0)) s₁.heap _
    exact (⟨rfl, N0, e0⟩)
def Q12_1 (Z : State) (w_EMPTY_MAP w_cache w_mir0 w_mir1 : Addr) (z_COMPACT_STRINGS : Int32) (o0 : Addr) (o1 : Addr) (o2 : Addr) (o3 : Addr) (kk_o1 : ClassId) (kk_o3 : ClassId) (p0 : Int32) (h0 : Heap) (n0 : Nat) (v : Option Value) (h : Heap) (L : List Loc) : Prop := v = (some (.int 0)) ∧ Fr n0 L ∧ h = h0
theorem rm12_1 (l : Launch) (Z : State) (a0 : Array Value) (hw : HW Z a0) (ws : List Jvm.Cond) (w_EMPTY_MAP w_cache w_mir0 w_mir1 : Addr) (z_COMPACT_STRINGS : Int32) (o0 : Addr) (o1 : Addr) (o2 : Addr) (o3 : Addr) (kk_o1 : ClassId) (kk_o3 : ClassId) (p0 : Int32) (h0 : Heap) (n0 : Nat) (O0 : Old Z n0 h0) (S : SF Z w_EMPTY_MAP w_cache w_mir0 w_mir1 z_COMPACT_STRINGS) (F_coder_o0 : Fld Z h0 o0 sC2 "coder" "B" (.int 0)) (F_value_o0 : Fld Z h0 o0 sC2 "value" "[B" (.ref o1)) (V_o1 : Arv Z h0 o1 kk_o1 .byte (1 : Int32) [(.int p0)] (.int 0)) (E_o2 : Exa Z h0 o2 sC2) (F_coder_o2 : Fld Z h0 o2 sC2 "coder" "B" (.int 0)) (F_value_o2 : Fld Z h0 o2 sC2 "value" "[B" (.ref o3)) (V_o3 : Arv Z h0 o3 kk_o3 .byte (5 : Int32) [(.int 101), (.int 114), (.int 114), (.int 111), (.int 114)] (.int 0)) (ne_o0_o2 : o0 ≠ o2) :
    Pay l Z My12 ws jdk_42_method_66_code 3 (some .boolean) #[(.ref o0), (.ref o2)] h0 ({ frames := 1, cells := 0, slots := 0, locals := 14 } : Room) (Q12_1 Z w_EMPTY_MAP w_cache w_mir0 w_mir1 z_COMPACT_STRINGS o0 o1 o2 o3 kk_o1 kk_o3 p0 h0 n0) := by
  obtain ⟨-, -, -, -, -, S_z_COMPACT_STRINGS, hz_z_COMPACT_STRINGS, -⟩ := id S
  refine own_body (plainFor_of_name pn_3) (L0 := #[va o0, va o2, uu]) (fun _ => by first | rfl | (simp [entryFrame, mkF, argsToLocals, Value.category]; done)) ?_
  intro p e s m below meth c s₁ hrt hlk hx hby hml hZ hown0 hnm X0 e0
  have hown : s.vm.findClass sC2 = some m.cls := hown0
  have N0 := Fr.nil n0
  have K0 : Keep h0 h0 [] := Keep.refl _ _
  obtain ⟨T1, X1, e1, st1⟩ := instY X0 hx hZ hown (ww hw 31 rfl) e0 (Ins.self E_o2) (g := (mkF m 8 #[va o0, va o2, uu] [(.ref o2)])) rfl rfl (hb hby d12_8)
  obtain ⟨T2, X2, e2, st2⟩ := castY X1 hx hZ hown (ww hw 31 rfl) e1 (Ins.self E_o2) (g := (mkF m 15 #[va o0, va o2, uu] [(.ref o2)])) rfl rfl (hb hby d12_15)
  obtain ⟨T3, X3, e3, st3⟩ := getS2 X2 hx hZ hown (host := "") (Or.inl (ww hw 26 rfl)) Via.refl e2 (S_z_COMPACT_STRINGS.ext O0.2) (g := (mkF m 19 #[va o0, va o2, va o2] [])) rfl (hb hby d12_19)
  obtain ⟨T4, X4, e4, st4⟩ := getF X3 hx hZ hown (host := "") (Or.inl (ww hw 44 rfl)) Via.refl e3 F_coder_o0 (g := (mkF m 26 #[va o0, va o2, va o2] [(.ref o0)])) rfl rfl (hb hby d12_26)
  obtain ⟨T5, X5, e5, st5⟩ := getF X4 hx hZ hown (host := "") (Or.inl (ww hw 44 rfl)) Via.refl e4 F_coder_o2 (g := (mkF m 30 #[va o0, va o2, va o2] [(.ref o2), (.int 0)])) rfl rfl (hb hby d12_30)
  obtain ⟨T6, X6, e6, st6⟩ := getF X5 hx hZ hown (host := "") (Or.inl (ww hw 42 rfl)) Via.refl e5 F_value_o0 (g := (mkF m 37 #[va o0, va o2, va o2] [(.ref o0)])) rfl rfl (hb hby d12_37)
  obtain ⟨T7, X7, e7, st7⟩ := getF X6 hx hZ hown (host := "") (Or.inl (ww hw 42 rfl)) Via.refl e6 F_value_o2 (g := (mkF m 41 #[va o0, va o2, va o2] [(.ref o2), (.ref o1)])) rfl rfl (hb hby d12_41)
  obtain ⟨_, _, ⟨T8, L8, k8, n8⟩, -, X8, ⟨Lc8, hQ8, l8, y8, z8⟩, st8⟩ := Jvm.LawKit.callS X7 hx (y := My13) hown (mvT hZ (ww hw 71 rfl)) (mvT hZ (ww hw 72 rfl)) (mvT hZ (ww hw 29 rfl)) (mvT hZ (ww hw 73 rfl)) (by decide) (backOf (W := 0) (rm13_1 l Z a0 hw [] w_EMPTY_MAP w_cache w_mir0 w_mir1 z_COMPACT_STRINGS o1 o3 kk_o1 kk_o3 p0 h0 n0 O0 S V_o1 V_o3) hZ (ww hw 73 rfl) (ww hw 29 rfl) (by decide) (by decide)) (g := (mkF m 44 #[va o0, va o2, va o2] [(.ref o3), (.ref o1)])) rfl (by rw [hml]; rfl) (argsL := [(.ref o1), (.ref o3)]) (rest := []) (lenOf pd_11 rfl) rfl (by show 2 * 0 + _ ≤ _; exact Nat.le_of_eq rfl) (hb hby d12_44) (fun _ _ => ⟨rfl, e7, (by decide : 0 + 0 ≤ _), (by decide : 0 + 0 ≤ _)⟩)
  dsimp only [Pt.U, Pt.locs, Pt.cells, Pt.slots] at X8 l8 y8 z8 st8 hQ8
  subst l8 y8 z8
  obtain ⟨rfl, Nq8, e8⟩ := hQ8
  have N8 := Fr.app N0 Nq8
  obtain ⟨fs, hr, hrun, hended, hW, hsame⟩ := X8.leave (v := (some (.int 0))) (fun h => by rw [hrt] at h; cases h)
  refine ⟨_, _, ?_, hrun, hended, _, _, rfl, ?_, ⟨_, rfl⟩, hW, hsame.mono (by decide) (by decide)⟩
  · show Steps p.tables e below (s₁.setTop (mkF m 0 #[va o0, va o2, uu] [])) _
    refine XS.aloadN X0.here hx rfl (hb hby d12_0) rfl rfl ?_
    refine XS.aloadN X0.here hx rfl (hb hby d12_1) rfl rfl ?_
    refine Jvm.RoadKit.acmp (g := (mkF m 2 #[va o0, va o2, uu] [(.ref o2), (.ref o0)])) X0 hx rfl rfl rfl (pc0 := 2) (pc' := 7) (same := false) rfl (hb hby d12_2) rfl (decide_eq_false fun q => ne_o0_o2 (Value.ref.inj q)) (by decide) (by decide) ?_
    refine XS.aloadN X0.here hx rfl (hb hby d12_7) rfl rfl ?_
    refine st1 _ ?_
    refine XS.ifNo X1.here hx rfl (hb hby d12_11) rfl ((if0 _ _).trans (feq (by decide : ¬ ((1 : Int32) = (0 : Int32)))).1) ?_
    refine XS.aloadN X1.here hx rfl (hb hby d12_14) rfl rfl ?_
    refine st2 _ ?_
    show Steps p.tables e below (T2.setTop (mkF m 18 #[va o0, va o2, uu] [(.ref o2)])) _
    refine XS.astoreN X2.here hx rfl (hb hby d12_18) rfl rfl (l' := #[va o0, va o2, va o2]) rfl ?_
    refine st3 _ ?_
    refine XS.ifNo X3.here hx rfl (hb hby d12_22) rfl ((if0 _ _).trans (feq hz_z_COMPACT_STRINGS).1) ?_
    refine XS.aloadN X3.here hx rfl (hb hby d12_25) rfl rfl ?_
    refine st4 _ ?_
    refine XS.aloadN X4.here hx rfl (hb hby d12_29) rfl rfl ?_
    refine st5 _ ?_
    refine XS.icmpNo X5.here hx rfl (hb hby d12_33) rfl (teq (by decide : (0 : Int32) = (0 : Int32))).2 ?_
    show Steps p.tables e below (T5.setTop (mkF m 36 #[va o0, va o2, va o2] [])) _
    refine XS.aloadN X5.here hx rfl (hb hby d12_36) rfl rfl ?_
    refine st6 _ ?_
    refine XS.aloadN X6.here hx rfl (hb hby d12_40) rfl rfl ?_
    refine st7 _ ?_
    refine st8 _ ?_
    refine XS.ifYes X8.here hx rfl (pc0 := 47) (pc' := 54) rfl (hb hby d12_47) rfl ((if0 _ _).trans (teq (by decide : (0 : Int32) = (0 : Int32))).1) (by decide) (by decide) ?_
    refine XS.iconst X8.here hx rfl (hb hby d12_54) ?_
    exact retN X8 hx (t := .boolean) hrt (by simp) (hb hby d12_55) hr
  · show Q12_1 Z w_EMPTY_MAP w_cache w_mir0 w_mir1 z_COMPACT_STRINGS o0 o1 o2 o3 kk_o1 kk_o3 p0 h0 n0 (some (.int 0)) T8.heap _
    exact (⟨rfl, N8, e8⟩)
theorem d10_22 : decode prog_19_method_4_code 22 = .ok (.ifCond .eq 17, 3) := by decide +kernel
theorem d10_39 : decode prog_19_method_4_code 39 = .ok (.new 55, 3) := by decide +kernel
theorem d10_42 : decode prog_19_method_4_code 42 = .ok (.dup, 1) := by decide +kernel
theorem d10_43 : decode prog_19_method_4_code 43 = .ok (.aload_n 0, 1) := by decide +kernel
theorem d10_44 : decode prog_19_method_4_code 44 = .ok (.getfield 13, 3) := by decide +kernel
theorem d10_47 : decode prog_19_method_4_code 47 = .ok (.invokespecial 57, 3) := by decide +kernel
theorem pn_8 : plainName "java/util/LinkedHashMap" = true := by first | (simp [plainName, overriddenIn]; done) | decide +kernel
theorem d14_0 : decode jdk_94_method_17_code 0 = .ok (.aload_n 0, 1) := by decide +kernel
theorem d14_1 : decode jdk_94_method_17_code 1 = .ok (.invokespecial 87, 3) := by decide +kernel
theorem pn_9 : plainName "java/util/HashMap" = true := by first | (simp [plainName, overriddenIn]; done) | decide +kernel
theorem d15_0 : decode jdk_69_method_7_code 0 = .ok (.aload_n 0, 1) := by decide +kernel
theorem d15_1 : decode jdk_69_method_7_code 1 = .ok (.invokespecial 43, 3) := by decide +kernel
theorem pn_10 : plainName "java/util/AbstractMap" = true := by first | (simp [plainName, overriddenIn]; done) | decide +kernel
theorem d16_0 : decode jdk_71_method_1_code 0 = .ok (.aload_n 0, 1) := by decide +kernel
theorem d16_1 : decode jdk_71_method_1_code 1 = .ok (.invokespecial 1, 3) := by decide +kernel
theorem d16_4 : decode jdk_71_method_1_code 4 = .ok (.return_, 1) := by decide +kernel
def Q16_0 (Z : State) (w_EMPTY_MAP w_cache w_mir0 w_mir1 : Addr) (z_COMPACT_STRINGS : Int32) (o0 : Addr) (h0 : Heap) (n0 : Nat) (v : Option Value) (h : Heap) (L : List Loc) : Prop := v = none ∧ Fr n0 L ∧ h = h0
theorem rm16_0 (l : Launch) (Z : State) (a0 : Array Value) (hw : HW Z a0) (ws : List Jvm.Cond) (w_EMPTY_MAP w_cache w_mir0 w_mir1 : Addr) (z_COMPACT_STRINGS : Int32) (o0 : Addr) (h0 : Heap) (n0 : Nat) (O0 : Old Z n0 h0) (S : SF Z w_EMPTY_MAP w_cache w_mir0 w_mir1 z_COMPACT_STRINGS) :
    Pay l Z (⟨"java/util/AbstractMap", "<init>", "()V"⟩ : MethodName) ws jdk_71_method_1_code 1 none #[(.ref o0)] h0 ({ frames := 1, cells := 0, slots := 0, locals := 12 } : Room) (Q16_0 Z w_EMPTY_MAP w_cache w_mir0 w_mir1 z_COMPACT_STRINGS o0 h0 n0) := by
  refine own_body (plainFor_of_name pn_10) (L0 := #[va o0]) (fun _ => by first | rfl | (simp [entryFrame, mkF, argsToLocals, Value.category]; done)) ?_
  intro p e s m below meth c s₁ hrt hlk hx hby hml hZ hown0 hnm X0 e0
  have hown : s.vm.findClass "java/util/AbstractMap" = some m.cls := hown0
  have N0 := Fr.nil n0
  have K0 : Keep h0 h0 [] := Keep.refl _ _
  obtain ⟨T1, X1, e1, st1⟩ := initO X0 hx hZ hown (ww hw 93 rfl) (ww hw 16 rfl) (ww hw 17 rfl) e0 (g := (mkF m 1 #[va o0] [(.ref o0)])) rfl (by rw [hml]; rfl) rfl (hb hby d16_1) (by decide) (W := 0) (by show 2 * 0 + _ ≤ _; exact Nat.le_of_eq rfl) (by decide)
  obtain ⟨fs, hr, hrun, hended, hW, hsame⟩ := X1.leave (v := none) (fun _ => rfl)
  refine ⟨_, _, ?_, hrun, hended, _, _, rfl, ?_, ⟨_, rfl⟩, hW, hsame.mono (by decide) (by decide)⟩
  · show Steps p.tables e below (s₁.setTop (mkF m 0 #[va o0] [])) _
    refine XS.aloadN X0.here hx rfl (hb hby d16_0) rfl rfl ?_
    refine st1 _ ?_
    exact X1.returnOut hx hrt (hb hby d16_4) hr
  · show Q16_0 Z w_EMPTY_MAP w_cache w_mir0 w_mir1 z_COMPACT_STRINGS o0 h0 n0 none T1.heap _
    exact (⟨rfl, N0, e1⟩)
theorem d15_4 : decode jdk_69_method_7_code 4 = .ok (.aload_n 0, 1) := by decide +kernel
theorem d15_5 : decode jdk_69_method_7_code 5 = .ok (.ldc 92, 2) := by decide +kernel
theorem d15_7 : decode jdk_69_method_7_code 7 = .ok (.putfield 81, 3) := by decide +kernel
theorem d15_10 : decode jdk_69_method_7_code 10 = .ok (.return_, 1) := by decide +kernel
def Q15_0 (Z : State) (w_EMPTY_MAP w_cache w_mir0 w_mir1 : Addr) (z_COMPACT_STRINGS : Int32) (o0 : Addr) (h0 : Heap) (n0 : Nat) (v : Option Value) (h : Heap) (L : List Loc) : Prop := v = none ∧ Fr n0 L ∧ Keep h0 h [o0] ∧ Exa Z h o0 sC1 ∧ Fld Z h o0 sC0 "loadFactor" "F" (.float (1061158912 : UInt32)) ∧ Fld Z h o0 sC0 "modCount" "I" (.int 0) ∧ Fld Z h o0 sC0 "size" "I" (.int 0) ∧ Fld Z h o0 sC0 "table" "[Ljava/util/HashMap$Node;" .null ∧ Fld Z h o0 sC0 "threshold" "I" (.int 0) ∧ Fld Z h o0 sC1 "accessOrder" "Z" (.int 0) ∧ Fld Z h o0 sC1 "head" "Ljava/util/LinkedHashMap$Entry;" .null ∧ Fld Z h o0 sC1 "putMode" "I" (.int 0) ∧ Fld Z h o0 sC1 "tail" "Ljava/util/LinkedHashMap$Entry;" .null
theorem rm15_0 (l : Launch) (Z : State) (a0 : Array Value) (hw : HW Z a0) (ws : List Jvm.Cond) (w_EMPTY_MAP w_cache w_mir0 w_mir1 : Addr) (z_COMPACT_STRINGS : Int32) (o0 : Addr) (h0 : Heap) (n0 : Nat) (O0 : Old Z n0 h0) (S : SF Z w_EMPTY_MAP w_cache w_mir0 w_mir1 z_COMPACT_STRINGS) (E_o0 : Exa Z h0 o0 sC1) (F_loadFactor_o0 : Fld Z h0 o0 sC0 "loadFactor" "F" (.float (0 : UInt32))) (F_modCount_o0 : Fld Z h0 o0 sC0 "modCount" "I" (.int 0)) (F_size_o0 : Fld Z h0 o0 sC0 "size" "I" (.int 0)) (F_table_o0 : Fld Z h0 o0 sC0 "table" "[Ljava/util/HashMap$Node;" .null) (F_threshold_o0 : Fld Z h0 o0 sC0 "threshold" "I" (.int 0)) (F_accessOrder_o0 : Fld Z h0 o0 sC1 "accessOrder" "Z" (.int 0)) (F_head_o0 : Fld Z h0 o0 sC1 "head" "Ljava/util/LinkedHashMap$Entry;" .null) (F_putMode_o0 : Fld Z h0 o0 sC1 "putMode" "I" (.int 0)) (F_tail_o0 : Fld Z h0 o0 sC1 "tail" "Ljava/util/LinkedHashMap$Entry;" .null) (g_o0 : n0 ≤ o0) :
    Pay l Z (⟨sC0, "<init>", "()V"⟩ : MethodName) ws jdk_69_method_7_code 1 none #[(.ref o0)] h0 ({ frames := 2, cells := 0, slots := 0, locals := 24 } : Room) (Q15_0 Z w_EMPTY_MAP w_cache w_mir0 w_mir1 z_COMPACT_STRINGS o0 h0 n0) := by
  refine own_body (plainFor_of_name pn_9) (L0 := #[va o0]) (fun _ => by first | rfl | (simp [entryFrame, mkF, argsToLocals, Value.category]; done)) ?_
  intro p e s m below meth c s₁ hrt hlk hx hby hml hZ hown0 hnm X0 e0
  have hown : s.vm.findClass sC0 = some m.cls := hown0
  have N0 := Fr.nil n0
  have K0 : Keep h0 h0 [o0] := Keep.refl _ _
  obtain ⟨_, _, ⟨T1, L1, k1, n1⟩, -, X1, ⟨Lc1, hQ1, l1, y1, z1⟩, st1⟩ := X0.specialBack hx (y := (⟨"java/util/AbstractMap", "<init>", "()V"⟩ : MethodName)) rfl hown (mvT hZ (ww hw 87 rfl)) (mvT hZ (ww hw 88 rfl)) (mvT hZ (ww hw 92 rfl)) (by decide) (backOf (W := 0) (rm16_0 l Z a0 hw [] w_EMPTY_MAP w_cache w_mir0 w_mir1 z_COMPACT_STRINGS o0 h0 n0 O0 S) hZ (ww hw 92 rfl) (ww hw 91 rfl) (by decide) (by decide)) (g := (mkF m 1 #[va o0] [(.ref o0)])) rfl (by rw [hml]; rfl) (Steps.refl _) (a := o0) (argsL := []) (rest := []) (lenOf pd_7 rfl) rfl (by show 2 * 0 + _ ≤ _; exact Nat.le_of_eq rfl) (hb hby d15_1) (fun _ _ => ⟨rfl, e0, (by decide : 0 + 0 ≤ _), (by decide : 0 + 0 ≤ _)⟩)
  dsimp only [Pt.U, Pt.locs, Pt.cells, Pt.slots] at X1 l1 y1 z1 st1 hQ1
  subst l1 y1 z1
  obtain ⟨rfl, Nq1, e1⟩ := hQ1
  have N1 := Fr.app N0 Nq1
  obtain ⟨T2, h2, X2, e2, W2, st2⟩ := putF X1 hx hZ hown (host := "") (Or.inl (ww hw 95 rfl)) Via.refl e1 F_loadFactor_o0 E_o0 (Or.inr ⟨(ww hw 96 rfl), rfl, hnm⟩) (ww hw 76 rfl) (ty := .float) (by decide) rfl rfl (g := (mkF m 7 #[va o0] [(.float (1061158912 : UInt32)), (.ref o0)])) rfl rfl (hb hby d15_7)
  have Fw2 := F_loadFactor_o0.same W2
  have O2 := O0.wr W2 g_o0
  have K2 : Keep h0 h2 [o0] := K0.wr W2 (Or.inl (List.mem_of_getElem? (i := 0) rfl))
  have N2 := Fr.snoc X2 N1 g_o0
  obtain ⟨fs, hr, hrun, hended, hW, hsame⟩ := X2.leave (v := none) (fun _ => rfl)
  have fc3 := (E_o0.wr W2)
  have fc4 := (F_modCount_o0.other W2 (Or.inr (slot_ne (Or.inl (ww hw 203 rfl)) (Or.inr (ww hw 96 rfl)) (by decide) (t := .int) (t' := .float) (by decide) (by decide))))
  have fc5 := (F_size_o0.other W2 (Or.inr (slot_ne (Or.inl (ww hw 205 rfl)) (Or.inr (ww hw 96 rfl)) (by decide) (t := .int) (t' := .float) (by decide) (by decide))))
  have fc6 := (F_table_o0.other W2 (Or.inr (slot_ne (Or.inl (ww hw 155 rfl)) (Or.inr (ww hw 96 rfl)) (by decide) (t := (.array (.object sC3))) (t' := .float) (by decide) (by decide))))
  have fc7 := (F_threshold_o0.other W2 (Or.inr (slot_ne (Or.inl (ww hw 162 rfl)) (Or.inr (ww hw 96 rfl)) (by decide) (t := .int) (t' := .float) (by decide) (by decide))))
  have fc8 := (F_accessOrder_o0.other W2 (Or.inr (slot_ne (Or.inr (ww hw 100 rfl)) (Or.inr (ww hw 96 rfl)) (by decide) (t := .boolean) (t' := .float) (by decide) (by decide))))
  have fc9 := (F_head_o0.other W2 (Or.inr (slot_ne (Or.inl (ww hw 201 rfl)) (Or.inr (ww hw 96 rfl)) (by decide) (t := (.object sC4)) (t' := .float) (by decide) (by decide))))
  have fc10 := (F_putMode_o0.other W2 (Or.inr (slot_ne (Or.inl (ww hw 98 rfl)) (Or.inr (ww hw 96 rfl)) (by decide) (t := .int) (t' := .float) (by decide) (by decide))))
  have fc11 := (F_tail_o0.other W2 (Or.inr (slot_ne (Or.inl (ww hw 199 rfl)) (Or.inr (ww hw 96 rfl)) (by decide) (t := (.object sC4)) (t' := .float) (by decide) (by decide))))
  refine ⟨_, _, ?_, hrun, hended, _, _, rfl, ?_, ⟨_, rfl⟩, hW, hsame.mono (by decide) (by decide)⟩
  · show Steps p.tables e below (s₁.setTop (mkF m 0 #[va o0] [])) _
    refine XS.aloadN X0.here hx rfl (hb hby d15_0) rfl rfl ?_
    refine st1.trans ?_
    refine XS.aloadN X1.here hx rfl (hb hby d15_4) rfl rfl ?_
    refine X1.ldcFloatC hx hown (mvT hZ (ww hw 94 rfl)) (g := (mkF m 5 #[va o0] [(.ref o0)])) rfl (hb hby d15_5) _ ?_
    refine st2 _ ?_
    exact X2.returnOut hx hrt (hb hby d15_10) hr
  · show Q15_0 Z w_EMPTY_MAP w_cache w_mir0 w_mir1 z_COMPACT_STRINGS o0 h0 n0 none T2.heap _
    rw [e2]; exact ⟨rfl, N2, K2, fc3, Fw2, fc4, fc5, fc6, fc7, fc8, fc9, fc10, fc11⟩
theorem d14_4 : decode jdk_94_method_17_code 4 = .ok (.aload_n 0, 1) := by decide +kernel
theorem d14_5 : decode jdk_94_method_17_code 5 = .ok (.iconst 0, 1) := by decide +kernel
theorem d14_6 : decode jdk_94_method_17_code 6 = .ok (.putfield 1, 3) := by decide +kernel
theorem d14_9 : decode jdk_94_method_17_code 9 = .ok (.aload_n 0, 1) := by decide +kernel
theorem d14_10 : decode jdk_94_method_17_code 10 = .ok (.iconst 0, 1) := by decide +kernel
theorem d14_11 : decode jdk_94_method_17_code 11 = .ok (.putfield 64, 3) := by decide +kernel
theorem d14_14 : decode jdk_94_method_17_code 14 = .ok (.aload_n 0, 1) := by decide +kernel
theorem d14_15 : decode jdk_94_method_17_code 15 = .ok (.aload_n 1, 1) := by decide +kernel
theorem d14_16 : decode jdk_94_method_17_code 16 = .ok (.iconst 0, 1) := by decide +kernel
theorem d14_17 : decode jdk_94_method_17_code 17 = .ok (.invokevirtual 89, 3) := by decide +kernel
theorem d17_0 : decode jdk_69_method_9_code 0 = .ok (.aload_n 1, 1) := by decide +kernel
theorem d17_1 : decode jdk_69_method_9_code 1 = .ok (.invokeinterface 100 1, 5) := by decide +kernel
theorem pn_11 : plainName "java/util/ImmutableCollections$MapN" = true := by first | (simp [plainName, overriddenIn]; done) | decide +kernel
theorem d18_0 : decode jdk_2605_method_6_code 0 = .ok (.aload_n 0, 1) := by decide +kernel
theorem d18_1 : decode jdk_2605_method_6_code 1 = .ok (.getfield 16, 3) := by decide +kernel
theorem d18_4 : decode jdk_2605_method_6_code 4 = .ok (.ireturn, 1) := by decide +kernel
def Q18_0 (Z : State) (w_EMPTY_MAP w_cache w_mir0 w_mir1 : Addr) (z_COMPACT_STRINGS : Int32) (h0 : Heap) (n0 : Nat) (v : Option Value) (h : Heap) (L : List Loc) : Prop := v = (some (.int 0)) ∧ Fr n0 L ∧ h = h0
theorem rm18_0 (l : Launch) (Z : State) (a0 : Array Value) (hw : HW Z a0) (ws : List Jvm.Cond) (w_EMPTY_MAP w_cache w_mir0 w_mir1 : Addr) (z_COMPACT_STRINGS : Int32) (h0 : Heap) (n0 : Nat) (O0 : Old Z n0 h0) (S : SF Z w_EMPTY_MAP w_cache w_mir0 w_mir1 z_COMPACT_STRINGS) :
    Pay l Z (⟨"java/util/ImmutableCollections$MapN", "size", "()I"⟩ : MethodName) ws jdk_2605_method_6_code 1 (some .int) #[(.ref w_EMPTY_MAP)] h0 ({ frames := 0, cells := 0, slots := 0, locals := 0 } : Room) (Q18_0 Z w_EMPTY_MAP w_cache w_mir0 w_mir1 z_COMPACT_STRINGS  h0 n0) := by
  obtain ⟨-, -, -, -, F_size_w_EMPTY_MAP, -⟩ := id S
  refine own_body (plainFor_of_name pn_11) (L0 := #[va w_EMPTY_MAP]) (fun _ => by first | rfl | (simp [entryFrame, mkF, argsToLocals, Value.category]; done)) ?_
  intro p e s m below meth c s₁ hrt hlk hx hby hml hZ hown0 hnm X0 e0
  have hown : s.vm.findClass "java/util/ImmutableCollections$MapN" = some m.cls := hown0
  have N0 := Fr.nil n0
  have K0 : Keep h0 h0 [] := Keep.refl _ _
  obtain ⟨T1, X1, e1, st1⟩ := getF X0 hx hZ hown (host := "") (Or.inl (ww hw 117 rfl)) Via.refl e0 (F_size_w_EMPTY_MAP.ext O0.2) (g := (mkF m 1 #[va w_EMPTY_MAP] [(.ref w_EMPTY_MAP)])) rfl rfl (hb hby d18_1)
  obtain ⟨fs, hr, hrun, hended, hW, hsame⟩ := X1.leave (v := (some (.int 0))) (fun h => by rw [hrt] at h; cases h)
  refine ⟨_, _, ?_, hrun, hended, _, _, rfl, ?_, ⟨_, rfl⟩, hW, hsame.mono (by decide) (by decide)⟩
  · show Steps p.tables e below (s₁.setTop (mkF m 0 #[va w_EMPTY_MAP] [])) _
    refine XS.aloadN X0.here hx rfl (hb hby d18_0) rfl rfl ?_
    refine st1 _ ?_
    exact retOut X1 hx (t := .int) (i := .ireturn) hrt rfl (Or.inl ⟨rfl, Or.inl rfl, _, rfl⟩) (hb hby d18_4) hr
  · show Q18_0 Z w_EMPTY_MAP w_cache w_mir0 w_mir1 z_COMPACT_STRINGS  h0 n0 (some (.int 0)) T1.heap _
    exact (⟨rfl, N0, e1⟩)
theorem pd_13 : parseMethodDescriptor "()I" = some ⟨[], some .int⟩ := by decide +kernel
theorem d17_6 : decode jdk_69_method_9_code 6 = .ok (.istore_n 3, 1) := by decide +kernel
theorem d17_7 : decode jdk_69_method_9_code 7 = .ok (.iload_n 3, 1) := by decide +kernel
theorem d17_8 : decode jdk_69_method_9_code 8 = .ok (.ifCond .le 161, 3) := by decide +kernel
theorem d17_169 : decode jdk_69_method_9_code 169 = .ok (.return_, 1) := by decide +kernel
def Q17_0 (Z : State) (w_EMPTY_MAP w_cache w_mir0 w_mir1 : Addr) (z_COMPACT_STRINGS : Int32) (o0 : Addr) (h0 : Heap) (n0 : Nat) (v : Option Value) (h : Heap) (L : List Loc) : Prop := v = none ∧ Fr n0 L ∧ h = h0
theorem rm17_0 (l : Launch) (Z : State) (a0 : Array Value) (hw : HW Z a0) (ws : List Jvm.Cond) (w_EMPTY_MAP w_cache w_mir0 w_mir1 : Addr) (z_COMPACT_STRINGS : Int32) (o0 : Addr) (h0 : Heap) (n0 : Nat) (O0 : Old Z n0 h0) (S : SF Z w_EMPTY_MAP w_cache w_mir0 w_mir1 z_COMPACT_STRINGS) :
    Pay l Z My17 ws jdk_69_method_9_code 8 none #[(.ref o0), (.ref w_EMPTY_MAP), (.int 0)] h0 ({ frames := 1, cells := 0, slots := 0, locals := 12 } : Room) (Q17_0 Z w_EMPTY_MAP w_cache w_mir0 w_mir1 z_COMPACT_STRINGS o0 h0 n0) := by
  obtain ⟨-, -, -, E_w_EMPTY_MAP, -⟩ := id S
  refine own_body (plainFor_of_name pn_9) (L0 := #[va o0, va w_EMPTY_MAP, vi 0, uu, uu, uu, uu, uu]) (fun _ => by first | rfl | (simp [entryFrame, mkF, argsToLocals, Value.category]; done)) ?_
  intro p e s m below meth c s₁ hrt hlk hx hby hml hZ hown0 hnm X0 e0
  have hown : s.vm.findClass sC0 = some m.cls := hown0
  have N0 := Fr.nil n0
  have K0 : Keep h0 h0 [] := Keep.refl _ _
  obtain ⟨cq1, kq1, q1a, q1b, q1c⟩ := isOf hZ e0 (E_w_EMPTY_MAP.ext O0.2)
  obtain ⟨_, _, ⟨T1, L1, k1, n1⟩, -, X1, ⟨Lc1, hQ1, l1, y1, z1⟩, st1⟩ := X0.interfaceBack hx (xi := (⟨sC6, "size", "()I"⟩ : MethodName)) (y := (⟨"java/util/ImmutableCollections$MapN", "size", "()I"⟩ : MethodName)) hown (mvT hZ (ww hw 107 rfl)) (mvT hZ (ww hw 108 rfl)) (mvT hZ (ww hw 109 rfl)) (mvT hZ (ww hw 110 rfl)) (mvT hZ (ww hw 111 rfl)) (mvT hZ (ww hw 112 rfl)) (mvT hZ (ww hw 113 rfl)) (mvT hZ (ww hw 114 rfl)) (by decide) (backOf (W := 0) (rm18_0 l Z a0 hw [] w_EMPTY_MAP w_cache w_mir0 w_mir1 z_COMPACT_STRINGS h0 n0 O0 S) hZ (ww hw 116 rfl) (ww hw 115 rfl) (by decide) (by decide)) q1a q1b q1c (g := (mkF m 1 #[va o0, va w_EMPTY_MAP, vi 0, uu, uu, uu, uu, uu] [(.ref w_EMPTY_MAP)])) rfl (by rw [hml]; rfl) (Steps.refl _) (argsL := []) (rest := []) (lenOf pd_13 rfl) rfl (by show 2 * 0 + _ ≤ _; exact Nat.le_of_eq rfl) (hb hby d17_1) (fun _ _ => ⟨rfl, e0, (by decide : 0 + 0 ≤ _), (by decide : 0 + 0 ≤ _)⟩)
  dsimp only [Pt.U, Pt.locs, Pt.cells, Pt.slots] at X1 l1 y1 z1 st1 hQ1
  subst l1 y1 z1
  obtain ⟨rfl, Nq1, e1⟩ := hQ1
  have N1 := Fr.app N0 Nq1
  obtain ⟨fs, hr, hrun, hended, hW, hsame⟩ := X1.leave (v := none) (fun _ => rfl)
  refine ⟨_, _, ?_, hrun, hended, _, _, rfl, ?_, ⟨_, rfl⟩, hW, hsame.mono (by decide) (by decide)⟩
  · show Steps p.tables e below (s₁.setTop (mkF m 0 #[va o0, va w_EMPTY_MAP, vi 0, uu, uu, uu, uu, uu] [])) _
    refine XS.aloadN X0.here hx rfl (hb hby d17_0) rfl rfl ?_
    refine st1.trans ?_
    refine XS.istoreN X1.here hx rfl (hb hby d17_6) rfl (l' := #[va o0, va w_EMPTY_MAP, vi 0, vi 0, uu, uu, uu, uu]) rfl ?_
    refine XS.iloadN X1.here hx rfl (hb hby d17_7) rfl ?_
    refine XS.ifYes X1.here hx rfl (pc0 := 8) (pc' := 169) rfl (hb hby d17_8) rfl ((if0 _ _).trans (flt (by decide : ¬ ((0 : Int32) < (0 : Int32)))).2.2.2) (by decide) (by decide) ?_
    exact X1.returnOut hx hrt (hb hby d17_169) hr
  · show Q17_0 Z w_EMPTY_MAP w_cache w_mir0 w_mir1 z_COMPACT_STRINGS o0 h0 n0 none T1.heap _
    exact (⟨rfl, N1, e1⟩)
theorem pd_14 : parseMethodDescriptor "(Ljava/util/Map;Z)V" = some ⟨[(.object sC6), .boolean], none⟩ := by decide +kernel
theorem d14_20 : decode jdk_94_method_17_code 20 = .ok (.return_, 1) := by decide +kernel
def Q14_0 (Z : State) (w_EMPTY_MAP w_cache w_mir0 w_mir1 : Addr) (z_COMPACT_STRINGS : Int32) (o0 : Addr) (h0 : Heap) (n0 : Nat) (v : Option Value) (h : Heap) (L : List Loc) : Prop := v = none ∧ Fr n0 L ∧ Keep h0 h [o0] ∧ Exa Z h o0 sC1 ∧ Fld Z h o0 sC0 "loadFactor" "F" (.float (1061158912 : UInt32)) ∧ Fld Z h o0 sC0 "modCount" "I" (.int 0) ∧ Fld Z h o0 sC0 "size" "I" (.int 0) ∧ Fld Z h o0 sC0 "table" "[Ljava/util/HashMap$Node;" .null ∧ Fld Z h o0 sC0 "threshold" "I" (.int 0) ∧ Fld Z h o0 sC1 "accessOrder" "Z" (.int 0) ∧ Fld Z h o0 sC1 "head" "Ljava/util/LinkedHashMap$Entry;" .null ∧ Fld Z h o0 sC1 "putMode" "I" (.int 0) ∧ Fld Z h o0 sC1 "tail" "Ljava/util/LinkedHashMap$Entry;" .null
theorem rm14_0 (l : Launch) (Z : State) (a0 : Array Value) (hw : HW Z a0) (ws : List Jvm.Cond) (w_EMPTY_MAP w_cache w_mir0 w_mir1 : Addr) (z_COMPACT_STRINGS : Int32) (o0 : Addr) (h0 : Heap) (n0 : Nat) (O0 : Old Z n0 h0) (S : SF Z w_EMPTY_MAP w_cache w_mir0 w_mir1 z_COMPACT_STRINGS) (E_o0 : Exa Z h0 o0 sC1) (F_loadFactor_o0 : Fld Z h0 o0 sC0 "loadFactor" "F" (.float (0 : UInt32))) (F_modCount_o0 : Fld Z h0 o0 sC0 "modCount" "I" (.int 0)) (F_size_o0 : Fld Z h0 o0 sC0 "size" "I" (.int 0)) (F_table_o0 : Fld Z h0 o0 sC0 "table" "[Ljava/util/HashMap$Node;" .null) (F_threshold_o0 : Fld Z h0 o0 sC0 "threshold" "I" (.int 0)) (F_accessOrder_o0 : Fld Z h0 o0 sC1 "accessOrder" "Z" (.int 0)) (F_head_o0 : Fld Z h0 o0 sC1 "head" "Ljava/util/LinkedHashMap$Entry;" .null) (F_putMode_o0 : Fld Z h0 o0 sC1 "putMode" "I" (.int 0)) (F_tail_o0 : Fld Z h0 o0 sC1 "tail" "Ljava/util/LinkedHashMap$Entry;" .null) (g_o0 : n0 ≤ o0) :
    Pay l Z (⟨sC1, "<init>", "(Ljava/util/Map;)V"⟩ : MethodName) ws jdk_94_method_17_code 2 none #[(.ref o0), (.ref w_EMPTY_MAP)] h0 ({ frames := 3, cells := 0, slots := 0, locals := 36 } : Room) (Q14_0 Z w_EMPTY_MAP w_cache w_mir0 w_mir1 z_COMPACT_STRINGS o0 h0 n0) := by
  refine own_body (plainFor_of_name pn_8) (L0 := #[va o0, va w_EMPTY_MAP]) (fun _ => by first | rfl | (simp [entryFrame, mkF, argsToLocals, Value.category]; done)) ?_
  intro p e s m below meth c s₁ hrt hlk hx hby hml hZ hown0 hnm X0 e0
  have hown : s.vm.findClass sC1 = some m.cls := hown0
  have N0 := Fr.nil n0
  have K0 : Keep h0 h0 [o0] := Keep.refl _ _
  obtain ⟨_, _, ⟨T1, L1, k1, n1⟩, -, X1, ⟨Lc1, hQ1, l1, y1, z1⟩, st1⟩ := X0.specialBack hx (y := (⟨sC0, "<init>", "()V"⟩ : MethodName)) rfl hown (mvT hZ (ww hw 81 rfl)) (mvT hZ (ww hw 82 rfl)) (mvT hZ (ww hw 86 rfl)) (by decide) (backOf (W := 0) (rm15_0 l Z a0 hw [] w_EMPTY_MAP w_cache w_mir0 w_mir1 z_COMPACT_STRINGS o0 h0 n0 O0 S E_o0 F_loadFactor_o0 F_modCount_o0 F_size_o0 F_table_o0 F_threshold_o0 F_accessOrder_o0 F_head_o0 F_putMode_o0 F_tail_o0 g_o0) hZ (ww hw 86 rfl) (ww hw 85 rfl) (by decide) (by decide)) (g := (mkF m 1 #[va o0, va w_EMPTY_MAP] [(.ref o0)])) rfl (by rw [hml]; rfl) (Steps.refl _) (a := o0) (argsL := []) (rest := []) (lenOf pd_7 rfl) rfl (by show 2 * 0 + _ ≤ _; exact Nat.le_of_eq rfl) (hb hby d14_1) (fun _ _ => ⟨rfl, e0, (by decide : 0 + 0 ≤ _), (by decide : 0 + 0 ≤ _)⟩)
  dsimp only [Pt.U, Pt.locs, Pt.cells, Pt.slots] at X1 l1 y1 z1 st1 hQ1
  subst l1 y1 z1
  obtain ⟨rfl, Nq1, Kc1, P0_1, P1_1, P2_1, P3_1, P4_1, P5_1, P6_1, P7_1, P8_1, P9_1⟩ := hQ1
  have N1 := Fr.app N0 Nq1
  have O1 := O0.keep Kc1 (allS g_o0 all0)
  have K1 : Keep h0 T1.heap [o0] := K0.trans Kc1 (allS (Or.inl (List.mem_of_getElem? (i := 0) rfl)) all0)
  obtain ⟨T2, h2, X2, e2, W2, st2⟩ := putF X1 hx hZ hown (host := "") (Or.inl (ww hw 97 rfl)) Via.refl rfl P8_1 P0_1 (Or.inl (ww hw 98 rfl)) (ww hw 76 rfl) (ty := .int) (by decide) rfl rfl (g := (mkF m 6 #[va o0, va w_EMPTY_MAP] [(.int 0), (.ref o0)])) rfl rfl (hb hby d14_6)
  have Fw2 := P8_1.same W2
  have O2 := O1.wr W2 g_o0
  have K2 : Keep h0 h2 [o0] := K1.wr W2 (Or.inl (List.mem_of_getElem? (i := 0) rfl))
  have N2 := Fr.snoc X2 N1 g_o0
  have fc3 := (P6_1.other W2 (Or.inr (slot_ne (Or.inr (ww hw 100 rfl)) (Or.inl (ww hw 98 rfl)) (by decide) (t := .boolean) (t' := .int) (by decide) (by decide))))
  have fc4 := (P0_1.wr W2)
  obtain ⟨T5, h5, X5, e5, W5, st5⟩ := putFN X2 hx hZ hown (ww hw 99 rfl) Via.refl e2 fc3 fc4 (Or.inr ⟨(ww hw 100 rfl), rfl, hnm⟩) (ww hw 76 rfl) (ty := .boolean) (v' := (.int 0)) (by decide) rfl (by decide) (g := (mkF m 11 #[va o0, va w_EMPTY_MAP] [(.int 0), (.ref o0)])) rfl rfl (hb hby d14_11)
  have Fw5 := fc3.same W5
  have O5 := O2.wr W5 g_o0
  have K5 : Keep h0 h5 [o0] := K2.wr W5 (Or.inl (List.mem_of_getElem? (i := 0) rfl))
  have N5 := Fr.snoc X5 N2 g_o0
  have fc7 := (fc4.wr W5)
  obtain ⟨cq6, kq6, q6a, q6b, q6c⟩ := isOf hZ e5 fc7
  obtain ⟨_, _, ⟨T6, L6, k6, n6⟩, -, X6, ⟨Lc6, hQ6, l6, y6, z6⟩, st6⟩ := X5.virtualBackUp hx (x := (⟨sC1, "putMapEntries", "(Ljava/util/Map;Z)V"⟩ : MethodName)) (y := My17) (owner := sC0) hown (mvT hZ (ww hw 101 rfl)) (mvT hZ (ww hw 102 rfl)) (mvT hZ (ww hw 103 rfl)) (by decide) (mvT hZ (ww hw 105 rfl)) (mvT hZ (ww hw 104 rfl)) (backOf (W := 0) (rm17_0 l Z a0 hw [] w_EMPTY_MAP w_cache w_mir0 w_mir1 z_COMPACT_STRINGS o0 h5 n0 O5 S) hZ (ww hw 106 rfl) (ww hw 85 rfl) (by decide) (by decide)) q6a q6c (g := (mkF m 17 #[va o0, va w_EMPTY_MAP] [(.int 0), (.ref w_EMPTY_MAP), (.ref o0)])) rfl (by rw [hml]; rfl) (Steps.refl _) (argsL := [(.ref w_EMPTY_MAP), (.int 0)]) (rest := []) (lenOf pd_14 rfl) rfl (by show 2 * 0 + _ ≤ _; exact Nat.le_of_eq rfl) (hb hby d14_17) (fun _ _ => ⟨rfl, e5, (by decide : 0 + 0 ≤ _), (by decide : 0 + 0 ≤ _)⟩)
  dsimp only [Pt.U, Pt.locs, Pt.cells, Pt.slots] at X6 l6 y6 z6 st6 hQ6
  subst l6 y6 z6
  obtain ⟨rfl, Nq6, e6⟩ := hQ6
  have N6 := Fr.app N5 Nq6
  obtain ⟨fs, hr, hrun, hended, hW, hsame⟩ := X6.leave (v := none) (fun _ => rfl)
  have fc8 := ((P1_1.other W2 (Or.inr (slot_ne (Or.inr (ww hw 96 rfl)) (Or.inl (ww hw 98 rfl)) (by decide) (t := .float) (t' := .int) (by decide) (by decide)))).other W5 (Or.inr (slot_ne (Or.inr (ww hw 96 rfl)) (Or.inr (ww hw 100 rfl)) (by decide) (t := .float) (t' := .boolean) (by decide) (by decide))))
  have fc9 := ((P2_1.other W2 (Or.inr (slot_ne (Or.inl (ww hw 203 rfl)) (Or.inl (ww hw 98 rfl)) (by decide) (t := .int) (t' := .int) (by decide) (by decide)))).other W5 (Or.inr (slot_ne (Or.inl (ww hw 203 rfl)) (Or.inr (ww hw 100 rfl)) (by decide) (t := .int) (t' := .boolean) (by decide) (by decide))))
  have fc10 := ((P3_1.other W2 (Or.inr (slot_ne (Or.inl (ww hw 205 rfl)) (Or.inl (ww hw 98 rfl)) (by decide) (t := .int) (t' := .int) (by decide) (by decide)))).other W5 (Or.inr (slot_ne (Or.inl (ww hw 205 rfl)) (Or.inr (ww hw 100 rfl)) (by decide) (t := .int) (t' := .boolean) (by decide) (by decide))))
  have fc11 := ((P4_1.other W2 (Or.inr (slot_ne (Or.inl (ww hw 155 rfl)) (Or.inl (ww hw 98 rfl)) (by decide) (t := (.array (.object sC3))) (t' := .int) (by decide) (by decide)))).other W5 (Or.inr (slot_ne (Or.inl (ww hw 155 rfl)) (Or.inr (ww hw 100 rfl)) (by decide) (t := (.array (.object sC3))) (t' := .boolean) (by decide) (by decide))))
  have fc12 := ((P5_1.other W2 (Or.inr (slot_ne (Or.inl (ww hw 162 rfl)) (Or.inl (ww hw 98 rfl)) (by decide) (t := .int) (t' := .int) (by decide) (by decide)))).other W5 (Or.inr (slot_ne (Or.inl (ww hw 162 rfl)) (Or.inr (ww hw 100 rfl)) (by decide) (t := .int) (t' := .boolean) (by decide) (by decide))))
  have fc13 := ((P7_1.other W2 (Or.inr (slot_ne (Or.inl (ww hw 201 rfl)) (Or.inl (ww hw 98 rfl)) (by decide) (t := (.object sC4)) (t' := .int) (by decide) (by decide)))).other W5 (Or.inr (slot_ne (Or.inl (ww hw 201 rfl)) (Or.inr (ww hw 100 rfl)) (by decide) (t := (.object sC4)) (t' := .boolean) (by decide) (by decide))))
  have fc14 := (Fw2.other W5 (Or.inr (slot_ne (Or.inl (ww hw 98 rfl)) (Or.inr (ww hw 100 rfl)) (by decide) (t := .int) (t' := .boolean) (by decide) (by decide))))
  have fc15 := ((P9_1.other W2 (Or.inr (slot_ne (Or.inl (ww hw 199 rfl)) (Or.inl (ww hw 98 rfl)) (by decide) (t := (.object sC4)) (t' := .int) (by decide) (by decide)))).other W5 (Or.inr (slot_ne (Or.inl (ww hw 199 rfl)) (Or.inr (ww hw 100 rfl)) (by decide) (t := (.object sC4)) (t' := .boolean) (by decide) (by decide))))
  refine ⟨_, _, ?_, hrun, hended, _, _, rfl, ?_, ⟨_, rfl⟩, hW, hsame.mono (by decide) (by decide)⟩
  · show Steps p.tables e below (s₁.setTop (mkF m 0 #[va o0, va w_EMPTY_MAP] [])) _
    refine XS.aloadN X0.here hx rfl (hb hby d14_0) rfl rfl ?_
    refine st1.trans ?_
    refine XS.aloadN X1.here hx rfl (hb hby d14_4) rfl rfl ?_
    refine XS.iconst X1.here hx rfl (hb hby d14_5) ?_
    refine st2 _ ?_
    refine XS.aloadN X2.here hx rfl (hb hby d14_9) rfl rfl ?_
    refine XS.iconst X2.here hx rfl (hb hby d14_10) ?_
    refine st5 _ ?_
    show Steps p.tables e below (T5.setTop (mkF m 14 #[va o0, va w_EMPTY_MAP] [])) _
    refine XS.aloadN X5.here hx rfl (hb hby d14_14) rfl rfl ?_
    refine XS.aloadN X5.here hx rfl (hb hby d14_15) rfl rfl ?_
    refine XS.iconst X5.here hx rfl (hb hby d14_16) ?_
    refine st6.trans ?_
    exact X6.returnOut hx hrt (hb hby d14_20) hr
  · show Q14_0 Z w_EMPTY_MAP w_cache w_mir0 w_mir1 z_COMPACT_STRINGS o0 h0 n0 none T6.heap _
    rw [e6]; exact ⟨rfl, N6, K5, fc7, fc8, fc9, fc10, fc11, fc12, Fw5, fc13, fc14, fc15⟩
theorem pd_15 : parseMethodDescriptor "(Ljava/util/Map;)V" = some ⟨[(.object sC6)], none⟩ := by decide +kernel
theorem d10_50 : decode prog_19_method_4_code 50 = .ok (.astore_n 3, 1) := by decide +kernel
theorem d10_51 : decode prog_19_method_4_code 51 = .ok (.aload_n 3, 1) := by decide +kernel
theorem d10_52 : decode prog_19_method_4_code 52 = .ok (.aload_n 1, 1) := by decide +kernel
theorem d10_53 : decode prog_19_method_4_code 53 = .ok (.aload_n 2, 1) := by decide +kernel
theorem d10_54 : decode prog_19_method_4_code 54 = .ok (.invokeinterface 60 3, 5) := by decide +kernel
theorem d19_0 : decode jdk_69_method_15_code 0 = .ok (.aload_n 0, 1) := by decide +kernel
theorem d19_1 : decode jdk_69_method_15_code 1 = .ok (.aload_n 1, 1) := by decide +kernel
theorem d19_2 : decode jdk_69_method_15_code 2 = .ok (.invokestatic 149, 3) := by decide +kernel
theorem d20_0 : decode jdk_69_method_1_code 0 = .ok (.aload_n 0, 1) := by decide +kernel
theorem d20_1 : decode jdk_69_method_1_code 1 = .ok (.ifnonnull 7, 3) := by decide +kernel
theorem d20_8 : decode jdk_69_method_1_code 8 = .ok (.aload_n 0, 1) := by decide +kernel
theorem d20_9 : decode jdk_69_method_1_code 9 = .ok (.invokevirtual 1, 3) := by decide +kernel
theorem d21_0 : decode jdk_42_method_78_code 0 = .ok (.aload_n 0, 1) := by decide +kernel
theorem d21_1 : decode jdk_42_method_78_code 1 = .ok (.getfield 19, 3) := by decide +kernel
theorem d21_4 : decode jdk_42_method_78_code 4 = .ok (.istore_n 1, 1) := by decide +kernel
theorem d21_5 : decode jdk_42_method_78_code 5 = .ok (.iload_n 1, 1) := by decide +kernel
theorem d21_6 : decode jdk_42_method_78_code 6 = .ok (.ifCond .ne 52, 3) := by decide +kernel
theorem d21_9 : decode jdk_42_method_78_code 9 = .ok (.aload_n 0, 1) := by decide +kernel
theorem d21_10 : decode jdk_42_method_78_code 10 = .ok (.getfield 23, 3) := by decide +kernel
theorem d21_13 : decode jdk_42_method_78_code 13 = .ok (.ifCond .ne 45, 3) := by decide +kernel
theorem d21_16 : decode jdk_42_method_78_code 16 = .ok (.aload_n 0, 1) := by decide +kernel
theorem d21_17 : decode jdk_42_method_78_code 17 = .ok (.invokevirtual 492, 3) := by decide +kernel
theorem d22_0 : decode jdk_42_method_154_code 0 = .ok (.getstatic 38, 3) := by decide +kernel
theorem d22_3 : decode jdk_42_method_154_code 3 = .ok (.ifCond .eq 14, 3) := by decide +kernel
theorem d22_6 : decode jdk_42_method_154_code 6 = .ok (.aload_n 0, 1) := by decide +kernel
theorem d22_7 : decode jdk_42_method_154_code 7 = .ok (.getfield 15, 3) := by decide +kernel
theorem d22_10 : decode jdk_42_method_154_code 10 = .ok (.ifCond .ne 7, 3) := by decide +kernel
theorem d22_13 : decode jdk_42_method_154_code 13 = .ok (.iconst 1, 1) := by decide +kernel
theorem d22_14 : decode jdk_42_method_154_code 14 = .ok (.goto 4, 3) := by decide +kernel
theorem d22_18 : decode jdk_42_method_154_code 18 = .ok (.ireturn, 1) := by decide +kernel
def Q22_0 (Z : State) (w_EMPTY_MAP w_cache w_mir0 w_mir1 : Addr) (z_COMPACT_STRINGS : Int32) (o0 : Addr) (o1 : Addr) (kk_o1 : ClassId) (p0 : Int32) (h0 : Heap) (n0 : Nat) (v : Option Value) (h : Heap) (L : List Loc) : Prop := v = (some (.int 1)) ∧ Fr n0 L ∧ h = h0
theorem rm22_0 (l : Launch) (Z : State) (a0 : Array Value) (hw : HW Z a0) (ws : List Jvm.Cond) (w_EMPTY_MAP w_cache w_mir0 w_mir1 : Addr) (z_COMPACT_STRINGS : Int32) (o0 : Addr) (o1 : Addr) (kk_o1 : ClassId) (p0 : Int32) (h0 : Heap) (n0 : Nat) (O0 : Old Z n0 h0) (S : SF Z w_EMPTY_MAP w_cache w_mir0 w_mir1 z_COMPACT_STRINGS) (F_coder_o0 : Fld Z h0 o0 sC2 "coder" "B" (.int 0)) :
    Pay l Z My22 ws jdk_42_method_154_code 1 (some .boolean) #[(.ref o0)] h0 ({ frames := 0, cells := 0, slots := 0, locals := 0 } : Room) (Q22_0 Z w_EMPTY_MAP w_cache w_mir0 w_mir1 z_COMPACT_STRINGS o0 o1 kk_o1 p0 h0 n0) := by
  obtain ⟨-, -, -, -, -, S_z_COMPACT_STRINGS, hz_z_COMPACT_STRINGS, -⟩ := id S
  refine own_body (plainFor_of_name pn_3) (L0 := #[va o0]) (fun _ => by first | rfl | (simp [entryFrame, mkF, argsToLocals, Value.category]; done)) ?_
  intro p e s m below meth c s₁ hrt hlk hx hby hml hZ hown0 hnm X0 e0
  have hown : s.vm.findClass sC2 = some m.cls := hown0
  have N0 := Fr.nil n0
  have K0 : Keep h0 h0 [] := Keep.refl _ _
  obtain ⟨T1, X1, e1, st1⟩ := getS2 X0 hx hZ hown (host := "") (Or.inl (ww hw 26 rfl)) Via.refl e0 (S_z_COMPACT_STRINGS.ext O0.2) (g := (mkF m 0 #[va o0] [])) rfl (hb hby d22_0)
  obtain ⟨T2, X2, e2, st2⟩ := getF X1 hx hZ hown (host := "") (Or.inl (ww hw 44 rfl)) Via.refl e1 F_coder_o0 (g := (mkF m 7 #[va o0] [(.ref o0)])) rfl rfl (hb hby d22_7)
  obtain ⟨fs, hr, hrun, hended, hW, hsame⟩ := X2.leave (v := (some (.int 1))) (fun h => by rw [hrt] at h; cases h)
  refine ⟨_, _, ?_, hrun, hended, _, _, rfl, ?_, ⟨_, rfl⟩, hW, hsame.mono (by decide) (by decide)⟩
  · show Steps p.tables e below (s₁.setTop (mkF m 0 #[va o0] [])) _
    refine st1 _ ?_
    refine XS.ifNo X1.here hx rfl (hb hby d22_3) rfl ((if0 _ _).trans (feq hz_z_COMPACT_STRINGS).1) ?_
    refine XS.aloadN X1.here hx rfl (hb hby d22_6) rfl rfl ?_
    refine st2 _ ?_
    refine XS.ifNo X2.here hx rfl (hb hby d22_10) rfl ((if0 _ _).trans (teq (by decide : (0 : Int32) = (0 : Int32))).2) ?_
    refine XS.iconst X2.here hx rfl (hb hby d22_13) ?_
    refine XS.goto X2.here hx rfl (pc0 := 14) (pc' := 18) rfl (hb hby d22_14) (by decide) (by decide) ?_
    exact retN X2 hx (t := .boolean) hrt (by simp) (hb hby d22_18) hr
  · show Q22_0 Z w_EMPTY_MAP w_cache w_mir0 w_mir1 z_COMPACT_STRINGS o0 o1 kk_o1 p0 h0 n0 (some (.int 1)) T2.heap _
    exact (⟨rfl, N0, e2⟩)
theorem pd_16 : parseMethodDescriptor "()Z" = some ⟨[], some .boolean⟩ := by decide +kernel
theorem d21_20 : decode jdk_42_method_78_code 20 = .ok (.ifCond .eq 13, 3) := by decide +kernel
theorem d21_23 : decode jdk_42_method_78_code 23 = .ok (.aload_n 0, 1) := by decide +kernel
theorem d21_24 : decode jdk_42_method_78_code 24 = .ok (.getfield 9, 3) := by decide +kernel
theorem d21_27 : decode jdk_42_method_78_code 27 = .ok (.invokestatic 628, 3) := by decide +kernel
theorem d23_0 : decode jdk_43_method_21_code 0 = .ok (.aload_n 0, 1) := by decide +kernel
theorem d23_1 : decode jdk_43_method_21_code 1 = .ok (.arraylength, 1) := by decide +kernel
theorem d23_2 : decode jdk_43_method_21_code 2 = .ok (.lookupswitch 40 #[(0, 26), (1, 30)], 26) := by decide +kernel
theorem d23_32 : decode jdk_43_method_21_code 32 = .ok (.aload_n 0, 1) := by decide +kernel
theorem d23_33 : decode jdk_43_method_21_code 33 = .ok (.iconst 0, 1) := by decide +kernel
theorem d23_34 : decode jdk_43_method_21_code 34 = .ok (.baload, 1) := by decide +kernel
theorem d23_35 : decode jdk_43_method_21_code 35 = .ok (.sipush 255, 3) := by decide +kernel
theorem d23_38 : decode jdk_43_method_21_code 38 = .ok (.iand, 1) := by decide +kernel
theorem d23_39 : decode jdk_43_method_21_code 39 = .ok (.goto 12, 3) := by decide +kernel
theorem d23_51 : decode jdk_43_method_21_code 51 = .ok (.ireturn, 1) := by decide +kernel
def Q23_0 (Z : State) (w_EMPTY_MAP w_cache w_mir0 w_mir1 : Addr) (z_COMPACT_STRINGS : Int32) (o0 : Addr) (kk_o0 : ClassId) (p0 : Int32) (h0 : Heap) (n0 : Nat) (v : Option Value) (h : Heap) (L : List Loc) : Prop := v = (some (.int (p0 &&& (255 : Int32)))) ∧ Fr n0 L ∧ h = h0
theorem rm23_0 (l : Launch) (Z : State) (a0 : Array Value) (hw : HW Z a0) (ws : List Jvm.Cond) (w_EMPTY_MAP w_cache w_mir0 w_mir1 : Addr) (z_COMPACT_STRINGS : Int32) (o0 : Addr) (kk_o0 : ClassId) (p0 : Int32) (h0 : Heap) (n0 : Nat) (O0 : Old Z n0 h0) (S : SF Z w_EMPTY_MAP w_cache w_mir0 w_mir1 z_COMPACT_STRINGS) (V_o0 : Arv Z h0 o0 kk_o0 .byte (1 : Int32) [(.int p0)] (.int 0)) :
    Pay l Z (⟨sC11, "hashCode", "([B)I"⟩ : MethodName) ws jdk_43_method_21_code 1 (some .int) #[(.ref o0)] h0 ({ frames := 0, cells := 0, slots := 0, locals := 0 } : Room) (Q23_0 Z w_EMPTY_MAP w_cache w_mir0 w_mir1 z_COMPACT_STRINGS o0 kk_o0 p0 h0 n0) := by
  refine own_body (plainFor_of_name pn_4) (L0 := #[va o0]) (fun _ => by first | rfl | (simp [entryFrame, mkF, argsToLocals, Value.category]; done)) ?_
  intro p e s m below meth c s₁ hrt hlk hx hby hml hZ hown0 hnm X0 e0
  have hown : s.vm.findClass sC11 = some m.cls := hown0
  have N0 := Fr.nil n0
  have K0 : Keep h0 h0 [] := Keep.refl _ _
  obtain ⟨cl1, Ar1, qk1, Sz1, Ng1, Hh1, Gg1⟩ := id V_o0
  have hin1_0 : ¬ ((0 : Int32) < 0 ∨ cl1.slots.size ≤ ((0 : Int32)).toNatClampNeg) := inb_of Sz1 ⟨by decide, by decide⟩
  obtain ⟨fs, hr, hrun, hended, hW, hsame⟩ := X0.leave (v := (some (.int (p0 &&& (255 : Int32))))) (fun h => by rw [hrt] at h; cases h)
  refine ⟨_, _, ?_, hrun, hended, _, _, rfl, ?_, ⟨_, rfl⟩, hW, hsame.mono (by decide) (by decide)⟩
  · show Steps p.tables e below (s₁.setTop (mkF m 0 #[va o0] [])) _
    refine XS.aloadN X0.here hx rfl (hb hby d23_0) rfl rfl ?_
    refine X0.arraylength hx (by rw [e0]; exact Ar1.1) (State.isArrayOf_alike hZ.alike Ar1.2.1) (g := (mkF m 1 #[va o0] [(.ref o0)])) rfl rfl (hb hby d23_1) _ ?_
    rw [len_of Sz1 Ng1]
    refine X0.lookupswitchHit hx (g := (mkF m 2 #[va o0] [(.int 1)])) rfl rfl (hb hby d23_2) (by decide) (a := 1) (off := 30) (by decide) (show (0 : Int) ≤ ((2 : Nat) : Int) + 30 by decide) _ ?_
    show Steps p.tables e below (s₁.setTop (mkF m 32 #[va o0] [])) _
    refine XS.aloadN X0.here hx rfl (hb hby d23_32) rfl rfl ?_
    refine XS.iconst X0.here hx rfl (hb hby d23_33) ?_
    refine X0.baloadBytes hx (j := (0 : Int32)) (v := (.int p0)) (by rw [e0]; exact Ar1.1) (State.isArrayOf_alike hZ.alike Ar1.2.1) Ar1.2.2 hin1_0 (Has.at Hh1 hin1_0 rfl) (g := (mkF m 34 #[va o0] [(.int 0), (.ref o0)])) rfl rfl (hb hby d23_34) _ ?_
    refine XS.sipush X0.here hx rfl (hb hby d23_35) ?_
    refine XS.iand X0.here hx rfl (hb hby d23_38) rfl ?_
    refine XS.goto X0.here hx rfl (pc0 := 39) (pc' := 51) rfl (hb hby d23_39) (by decide) (by decide) ?_
    exact retOut X0 hx (t := .int) (i := .ireturn) hrt rfl (Or.inl ⟨rfl, Or.inl rfl, _, rfl⟩) (hb hby d23_51) hr
  · show Q23_0 Z w_EMPTY_MAP w_cache w_mir0 w_mir1 z_COMPACT_STRINGS o0 kk_o0 p0 h0 n0 (some (.int (p0 &&& (255 : Int32)))) s₁.heap _
    exact (⟨rfl, N0, e0⟩)
theorem pd_17 : parseMethodDescriptor "([B)I" = some ⟨[(.array .byte)], some .int⟩ := by decide +kernel
theorem d21_30 : decode jdk_42_method_78_code 30 = .ok (.goto 10, 3) := by decide +kernel
theorem d21_40 : decode jdk_42_method_78_code 40 = .ok (.istore_n 1, 1) := by decide +kernel
theorem d21_41 : decode jdk_42_method_78_code 41 = .ok (.iload_n 1, 1) := by decide +kernel
theorem d21_42 : decode jdk_42_method_78_code 42 = .ok (.ifCond .ne 11, 3) := by decide +kernel
theorem d21_45 : decode jdk_42_method_78_code 45 = .ok (.aload_n 0, 1) := by decide +kernel
theorem d21_46 : decode jdk_42_method_78_code 46 = .ok (.iconst 1, 1) := by decide +kernel
theorem d21_47 : decode jdk_42_method_78_code 47 = .ok (.putfield 23, 3) := by decide +kernel
theorem d21_50 : decode jdk_42_method_78_code 50 = .ok (.goto 8, 3) := by decide +kernel
theorem d21_58 : decode jdk_42_method_78_code 58 = .ok (.iload_n 1, 1) := by decide +kernel
theorem d21_59 : decode jdk_42_method_78_code 59 = .ok (.ireturn, 1) := by decide +kernel
def Q21_0 (Z : State) (w_EMPTY_MAP w_cache w_mir0 w_mir1 : Addr) (z_COMPACT_STRINGS : Int32) (o0 : Addr) (o1 : Addr) (kk_o1 : ClassId) (p0 : Int32) (h0 : Heap) (n0 : Nat) (v : Option Value) (h : Heap) (L : List Loc) : Prop := v = (some (.int (p0 &&& (255 : Int32)))) ∧ Fr n0 L ∧ Keep h0 h [o0] ∧ Exa Z h o0 sC2 ∧ Fld Z h o0 sC2 "coder" "B" (.int 0) ∧ Fld Z h o0 sC2 "hash" "I" (.int 0) ∧ Fld Z h o0 sC2 "hashIsZero" "Z" (.int 1) ∧ Fld Z h o0 sC2 "value" "[B" (.ref o1)
theorem rm21_0 (l : Launch) (Z : State) (a0 : Array Value) (hw : HW Z a0) (ws : List Jvm.Cond) (w_EMPTY_MAP w_cache w_mir0 w_mir1 : Addr) (z_COMPACT_STRINGS : Int32) (o0 : Addr) (o1 : Addr) (kk_o1 : ClassId) (p0 : Int32) (h0 : Heap) (n0 : Nat) (O0 : Old Z n0 h0) (S : SF Z w_EMPTY_MAP w_cache w_mir0 w_mir1 z_COMPACT_STRINGS) (E_o0 : Exa Z h0 o0 sC2) (F_coder_o0 : Fld Z h0 o0 sC2 "coder" "B" (.int 0)) (F_hash_o0 : Fld Z h0 o0 sC2 "hash" "I" (.int 0)) (F_hashIsZero_o0 : Fld Z h0 o0 sC2 "hashIsZero" "Z" (.int 0)) (F_value_o0 : Fld Z h0 o0 sC2 "value" "[B" (.ref o1)) (V_o1 : Arv Z h0 o1 kk_o1 .byte (1 : Int32) [(.int p0)] (.int 0)) (g_o0 : n0 ≤ o0) (hc0 : (p0 &&& (255 : Int32)) = (0 : Int32)) :
    Pay l Z My21 ws jdk_42_method_78_code 2 (some .int) #[(.ref o0)] h0 ({ frames := 1, cells := 0, slots := 0, locals := 12 } : Room) (Q21_0 Z w_EMPTY_MAP w_cache w_mir0 w_mir1 z_COMPACT_STRINGS o0 o1 kk_o1 p0 h0 n0) := by
  refine own_body (plainFor_of_name pn_3) (L0 := #[va o0, uu]) (fun _ => by first | rfl | (simp [entryFrame, mkF, argsToLocals, Value.category]; done)) ?_
  intro p e s m below meth c s₁ hrt hlk hx hby hml hZ hown0 hnm X0 e0
  have hown : s.vm.findClass sC2 = some m.cls := hown0
  have N0 := Fr.nil n0
  have K0 : Keep h0 h0 [o0] := Keep.refl _ _
  obtain ⟨T1, X1, e1, st1⟩ := getF X0 hx hZ hown (host := "") (Or.inl (ww hw 137 rfl)) Via.refl e0 F_hash_o0 (g := (mkF m 1 #[va o0, uu] [(.ref o0)])) rfl rfl (hb hby d21_1)
  obtain ⟨T2, X2, e2, st2⟩ := getF X1 hx hZ hown (host := "") (Or.inl (ww hw 139 rfl)) Via.refl e1 F_hashIsZero_o0 (g := (mkF m 10 #[va o0, vi 0] [(.ref o0)])) rfl rfl (hb hby d21_10)
  obtain ⟨cq3, kq3, q3a, q3b, q3c⟩ := isOf hZ e2 E_o0
  obtain ⟨_, _, ⟨T3, L3, k3, n3⟩, -, X3, ⟨Lc3, hQ3, l3, y3, z3⟩, st3⟩ := X2.virtualBack hx (y := My22) (z := My22) hown (mvT hZ (ww hw 141 rfl)) (mvT hZ (ww hw 142 rfl)) (notFace_of_selects (args := #[]) (mvT hZ (ww hw 144 rfl))) (mvT hZ (ww hw 144 rfl)) (mvT hZ (ww hw 143 rfl)) (by decide) (backOf (W := 0) (rm22_0 l Z a0 hw [] w_EMPTY_MAP w_cache w_mir0 w_mir1 z_COMPACT_STRINGS o0 o1 kk_o1 p0 h0 n0 O0 S F_coder_o0) hZ (ww hw 145 rfl) (ww hw 24 rfl) (by decide) (by decide)) q3a q3c (g := (mkF m 17 #[va o0, vi 0] [(.ref o0)])) rfl (by rw [hml]; rfl) (Steps.refl _) (argsL := []) (rest := []) (lenOf pd_16 rfl) rfl (by show 2 * 0 + _ ≤ _; exact Nat.le_of_eq rfl) (hb hby d21_17) (fun _ _ => ⟨rfl, e2, (by decide : 0 + 0 ≤ _), (by decide : 0 + 0 ≤ _)⟩)
  dsimp only [Pt.U, Pt.locs, Pt.cells, Pt.slots] at X3 l3 y3 z3 st3 hQ3
  subst l3 y3 z3
  obtain ⟨rfl, Nq3, e3⟩ := hQ3
  have N3 := Fr.app N0 Nq3
  obtain ⟨T4, X4, e4, st4⟩ := getF X3 hx hZ hown (host := "") (Or.inl (ww hw 42 rfl)) Via.refl e3 F_value_o0 (g := (mkF m 24 #[va o0, vi 0] [(.ref o0)])) rfl rfl (hb hby d21_24)
  obtain ⟨_, _, ⟨T5, L5, k5, n5⟩, -, X5, ⟨Lc5, hQ5, l5, y5, z5⟩, st5⟩ := Jvm.LawKit.callS X4 hx (y := (⟨sC11, "hashCode", "([B)I"⟩ : MethodName)) hown (mvT hZ (ww hw 146 rfl)) (mvT hZ (ww hw 147 rfl)) (mvT hZ (ww hw 29 rfl)) (mvT hZ (ww hw 148 rfl)) (by decide) (backOf (W := 0) (rm23_0 l Z a0 hw [] w_EMPTY_MAP w_cache w_mir0 w_mir1 z_COMPACT_STRINGS o1 kk_o1 p0 h0 n0 O0 S V_o1) hZ (ww hw 148 rfl) (ww hw 29 rfl) (by decide) (by decide)) (g := (mkF m 27 #[va o0, vi 0] [(.ref o1)])) rfl (by rw [hml]; rfl) (argsL := [(.ref o1)]) (rest := []) (lenOf pd_17 rfl) rfl (by show 2 * 0 + _ ≤ _; exact Nat.le_of_eq rfl) (hb hby d21_27) (fun _ _ => ⟨rfl, e4, (by decide : 0 + 0 ≤ _), (by decide : 0 + 0 ≤ _)⟩)
  dsimp only [Pt.U, Pt.locs, Pt.cells, Pt.slots] at X5 l5 y5 z5 st5 hQ5
  subst l5 y5 z5
  obtain ⟨rfl, Nq5, e5⟩ := hQ5
  have N5 := Fr.app N3 Nq5
  obtain ⟨T6, h6, X6, e6, W6, st6⟩ := putFN X5 hx hZ hown (ww hw 139 rfl) Via.refl e5 F_hashIsZero_o0 E_o0 (Or.inl (ww hw 140 rfl)) (ww hw 32 rfl) (ty := .boolean) (v' := (.int 1)) (by decide) rfl (by decide) (g := (mkF m 47 #[va o0, vi (p0 &&& (255 : Int32))] [(.int 1), (.ref o0)])) rfl rfl (hb hby d21_47)
  have Fw6 := F_hashIsZero_o0.same W6
  have O6 := O0.wr W6 g_o0
  have K6 : Keep h0 h6 [o0] := K0.wr W6 (Or.inl (List.mem_of_getElem? (i := 0) rfl))
  have N6 := Fr.snoc X6 N5 g_o0
  obtain ⟨fs, hr, hrun, hended, hW, hsame⟩ := X6.leave (v := (some (.int (p0 &&& (255 : Int32))))) (fun h => by rw [hrt] at h; cases h)
  have fc7 := (E_o0.wr W6)
  have fc8 := (F_coder_o0.other W6 (Or.inr (slot_ne (Or.inr (ww hw 45 rfl)) (Or.inl (ww hw 140 rfl)) (by decide) (t := .byte) (t' := .boolean) (by decide) (by decide))))
  have fc9 := (F_hash_o0.other W6 (Or.inr (slot_ne (Or.inl (ww hw 138 rfl)) (Or.inl (ww hw 140 rfl)) (by decide) (t := .int) (t' := .boolean) (by decide) (by decide))))
  have fc10 := (F_value_o0.other W6 (Or.inr (slot_ne (Or.inr (ww hw 43 rfl)) (Or.inl (ww hw 140 rfl)) (by decide) (t := (.array .byte)) (t' := .boolean) (by decide) (by decide))))
  refine ⟨_, _, ?_, hrun, hended, _, _, rfl, ?_, ⟨_, rfl⟩, hW, hsame.mono (by decide) (by decide)⟩
  · show Steps p.tables e below (s₁.setTop (mkF m 0 #[va o0, uu] [])) _
    refine XS.aloadN X0.here hx rfl (hb hby d21_0) rfl rfl ?_
    refine st1 _ ?_
    refine XS.istoreN X1.here hx rfl (hb hby d21_4) rfl (l' := #[va o0, vi 0]) rfl ?_
    refine XS.iloadN X1.here hx rfl (hb hby d21_5) rfl ?_
    refine XS.ifNo X1.here hx rfl (hb hby d21_6) rfl ((if0 _ _).trans (teq (by decide : (0 : Int32) = (0 : Int32))).2) ?_
    refine XS.aloadN X1.here hx rfl (hb hby d21_9) rfl rfl ?_
    refine st2 _ ?_
    refine XS.ifNo X2.here hx rfl (hb hby d21_13) rfl ((if0 _ _).trans (teq (by decide : (0 : Int32) = (0 : Int32))).2) ?_
    show Steps p.tables e below (T2.setTop (mkF m 16 #[va o0, vi 0] [])) _
    refine XS.aloadN X2.here hx rfl (hb hby d21_16) rfl rfl ?_
    refine st3.trans ?_
    refine XS.ifNo X3.here hx rfl (hb hby d21_20) rfl ((if0 _ _).trans (feq (by decide : ¬ ((1 : Int32) = (0 : Int32)))).1) ?_
    refine XS.aloadN X3.here hx rfl (hb hby d21_23) rfl rfl ?_
    refine st4 _ ?_
    refine st5 _ ?_
    refine XS.goto X5.here hx rfl (pc0 := 30) (pc' := 40) rfl (hb hby d21_30) (by decide) (by decide) ?_
    refine XS.istoreN X5.here hx rfl (hb hby d21_40) rfl (l' := #[va o0, vi (p0 &&& (255 : Int32))]) rfl ?_
    show Steps p.tables e below (T5.setTop (mkF m 41 #[va o0, vi (p0 &&& (255 : Int32))] [])) _
    refine XS.iloadN X5.here hx rfl (hb hby d21_41) rfl ?_
    refine XS.ifNo X5.here hx rfl (hb hby d21_42) rfl ((if0 _ _).trans (teq hc0).2) ?_
    refine XS.aloadN X5.here hx rfl (hb hby d21_45) rfl rfl ?_
    refine XS.iconst X5.here hx rfl (hb hby d21_46) ?_
    refine st6 _ ?_
    refine XS.goto X6.here hx rfl (pc0 := 50) (pc' := 58) rfl (hb hby d21_50) (by decide) (by decide) ?_
    refine XS.iloadN X6.here hx rfl (hb hby d21_58) rfl ?_
    exact retOut X6 hx (t := .int) (i := .ireturn) hrt rfl (Or.inl ⟨rfl, Or.inl rfl, _, rfl⟩) (hb hby d21_59) hr
  · show Q21_0 Z w_EMPTY_MAP w_cache w_mir0 w_mir1 z_COMPACT_STRINGS o0 o1 kk_o1 p0 h0 n0 (some (.int (p0 &&& (255 : Int32)))) T6.heap _
    rw [e6]; exact ⟨rfl, N6, K6, fc7, fc8, fc9, Fw6, fc10⟩
theorem d20_12 : decode jdk_69_method_1_code 12 = .ok (.dup, 1) := by decide +kernel
theorem d20_13 : decode jdk_69_method_1_code 13 = .ok (.istore_n 1, 1) := by decide +kernel
theorem d20_14 : decode jdk_69_method_1_code 14 = .ok (.iload_n 1, 1) := by decide +kernel
theorem d20_15 : decode jdk_69_method_1_code 15 = .ok (.bipush 16, 2) := by decide +kernel
theorem d20_17 : decode jdk_69_method_1_code 17 = .ok (.iushr, 1) := by decide +kernel
theorem d20_18 : decode jdk_69_method_1_code 18 = .ok (.ixor, 1) := by decide +kernel
theorem d20_19 : decode jdk_69_method_1_code 19 = .ok (.ireturn, 1) := by decide +kernel
def Q20_0 (Z : State) (w_EMPTY_MAP w_cache w_mir0 w_mir1 : Addr) (z_COMPACT_STRINGS : Int32) (o0 : Addr) (o1 : Addr) (kk_o1 : ClassId) (p0 : Int32) (h0 : Heap) (n0 : Nat) (v : Option Value) (h : Heap) (L : List Loc) : Prop := v = (some (.int ((p0 &&& (255 : Int32)) ^^^ (((p0 &&& (255 : Int32)).toUInt32 >>> ((16 : Int32) &&& 31).toUInt32).toInt32)))) ∧ Fr n0 L ∧ Keep h0 h [o0] ∧ Exa Z h o0 sC2 ∧ Fld Z h o0 sC2 "coder" "B" (.int 0) ∧ Fld Z h o0 sC2 "hash" "I" (.int 0) ∧ Fld Z h o0 sC2 "hashIsZero" "Z" (.int 1) ∧ Fld Z h o0 sC2 "value" "[B" (.ref o1)
theorem rm20_0 (l : Launch) (Z : State) (a0 : Array Value) (hw : HW Z a0) (ws : List Jvm.Cond) (w_EMPTY_MAP w_cache w_mir0 w_mir1 : Addr) (z_COMPACT_STRINGS : Int32) (o0 : Addr) (o1 : Addr) (kk_o1 : ClassId) (p0 : Int32) (h0 : Heap) (n0 : Nat) (O0 : Old Z n0 h0) (S : SF Z w_EMPTY_MAP w_cache w_mir0 w_mir1 z_COMPACT_STRINGS) (E_o0 : Exa Z h0 o0 sC2) (F_coder_o0 : Fld Z h0 o0 sC2 "coder" "B" (.int 0)) (F_hash_o0 : Fld Z h0 o0 sC2 "hash" "I" (.int 0)) (F_hashIsZero_o0 : Fld Z h0 o0 sC2 "hashIsZero" "Z" (.int 0)) (F_value_o0 : Fld Z h0 o0 sC2 "value" "[B" (.ref o1)) (V_o1 : Arv Z h0 o1 kk_o1 .byte (1 : Int32) [(.int p0)] (.int 0)) (g_o0 : n0 ≤ o0) (hc0 : (p0 &&& (255 : Int32)) = (0 : Int32)) :
    Pay l Z My20 ws jdk_69_method_1_code 2 (some .int) #[(.ref o0)] h0 ({ frames := 2, cells := 0, slots := 0, locals := 25 } : Room) (Q20_0 Z w_EMPTY_MAP w_cache w_mir0 w_mir1 z_COMPACT_STRINGS o0 o1 kk_o1 p0 h0 n0) := by
  refine own_body (plainFor_of_name pn_9) (L0 := #[va o0, uu]) (fun _ => by first | rfl | (simp [entryFrame, mkF, argsToLocals, Value.category]; done)) ?_
  intro p e s m below meth c s₁ hrt hlk hx hby hml hZ hown0 hnm X0 e0
  have hown : s.vm.findClass sC0 = some m.cls := hown0
  have N0 := Fr.nil n0
  have K0 : Keep h0 h0 [o0] := Keep.refl _ _
  obtain ⟨cq1, kq1, q1a, q1b, q1c⟩ := isOf hZ e0 E_o0
  obtain ⟨_, _, ⟨T1, L1, k1, n1⟩, -, X1, ⟨Lc1, hQ1, l1, y1, z1⟩, st1⟩ := X0.virtualBack hx (y := (⟨sC5, "hashCode", "()I"⟩ : MethodName)) (z := My21) hown (mvT hZ (ww hw 131 rfl)) (mvT hZ (ww hw 132 rfl)) (own_nf (args := #[]) (z := (⟨sC5, "getClass", "()Ljava/lang/Class;"⟩ : MethodName)) rfl (mvT hZ (ww hw 224 rfl))) (mvT hZ (ww hw 134 rfl)) (mvT hZ (ww hw 135 rfl)) (by decide) (backOf (W := 0) (rm21_0 l Z a0 hw [] w_EMPTY_MAP w_cache w_mir0 w_mir1 z_COMPACT_STRINGS o0 o1 kk_o1 p0 h0 n0 O0 S E_o0 F_coder_o0 F_hash_o0 F_hashIsZero_o0 F_value_o0 V_o1 g_o0 hc0) hZ (ww hw 136 rfl) (ww hw 24 rfl) (by decide) (by decide)) q1a q1c (g := (mkF m 9 #[va o0, uu] [(.ref o0)])) rfl (by rw [hml]; rfl) (Steps.refl _) (argsL := []) (rest := []) (lenOf pd_13 rfl) rfl (by show 2 * 0 + _ ≤ _; exact Nat.le_of_eq rfl) (hb hby d20_9) (fun _ _ => ⟨rfl, e0, (by decide : 0 + 0 ≤ _), (by decide : 0 + 0 ≤ _)⟩)
  dsimp only [Pt.U, Pt.locs, Pt.cells, Pt.slots] at X1 l1 y1 z1 st1 hQ1
  subst l1 y1 z1
  obtain ⟨rfl, Nq1, Kc1, P0_1, P1_1, P2_1, P3_1, P4_1⟩ := hQ1
  have N1 := Fr.app N0 Nq1
  have O1 := O0.keep Kc1 (allS g_o0 all0)
  have K1 : Keep h0 T1.heap [o0] := K0.trans Kc1 (allS (Or.inl (List.mem_of_getElem? (i := 0) rfl)) all0)
  obtain ⟨fs, hr, hrun, hended, hW, hsame⟩ := X1.leave (v := (some (.int ((p0 &&& (255 : Int32)) ^^^ (((p0 &&& (255 : Int32)).toUInt32 >>> ((16 : Int32) &&& 31).toUInt32).toInt32))))) (fun h => by rw [hrt] at h; cases h)
  refine ⟨_, _, ?_, hrun, hended, _, _, rfl, ?_, ⟨_, rfl⟩, hW, hsame.mono (by decide) (by decide)⟩
  · show Steps p.tables e below (s₁.setTop (mkF m 0 #[va o0, uu] [])) _
    refine XS.aloadN X0.here hx rfl (hb hby d20_0) rfl rfl ?_
    refine XS.ifnonnullYes X0.here hx rfl (pc0 := 1) (pc' := 8) rfl (hb hby d20_1) rfl (by decide) (by decide) ?_
    refine XS.aloadN X0.here hx rfl (hb hby d20_8) rfl rfl ?_
    refine st1.trans ?_
    refine XS.dup X1.here hx rfl (hb hby d20_12) rfl rfl ?_
    refine XS.istoreN X1.here hx rfl (hb hby d20_13) rfl (l' := #[va o0, vi (p0 &&& (255 : Int32))]) rfl ?_
    refine XS.iloadN X1.here hx rfl (hb hby d20_14) rfl ?_
    refine XS.bipush X1.here hx rfl (hb hby d20_15) ?_
    show Steps p.tables e below (T1.setTop (mkF m 17 #[va o0, vi (p0 &&& (255 : Int32))] [(.int 16), (.int (p0 &&& (255 : Int32))), (.int (p0 &&& (255 : Int32)))])) _
    refine XS.iushr X1.here hx rfl (hb hby d20_17) rfl ?_
    refine XS.ixor X1.here hx rfl (hb hby d20_18) rfl ?_
    exact retOut X1 hx (t := .int) (i := .ireturn) hrt rfl (Or.inl ⟨rfl, Or.inl rfl, _, rfl⟩) (hb hby d20_19) hr
  · show Q20_0 Z w_EMPTY_MAP w_cache w_mir0 w_mir1 z_COMPACT_STRINGS o0 o1 kk_o1 p0 h0 n0 (some (.int ((p0 &&& (255 : Int32)) ^^^ (((p0 &&& (255 : Int32)).toUInt32 >>> ((16 : Int32) &&& 31).toUInt32).toInt32)))) T1.heap _
    exact (⟨rfl, N1, K1, P0_1, P1_1, P2_1, P3_1, P4_1⟩)
theorem pd_18 : parseMethodDescriptor "(Ljava/lang/Object;)I" = some ⟨[(.object sC5)], some .int⟩ := by decide +kernel
theorem d19_5 : decode jdk_69_method_15_code 5 = .ok (.aload_n 1, 1) := by decide +kernel
theorem d19_6 : decode jdk_69_method_15_code 6 = .ok (.aload_n 2, 1) := by decide +kernel
theorem d19_7 : decode jdk_69_method_15_code 7 = .ok (.iconst 0, 1) := by decide +kernel
theorem d19_8 : decode jdk_69_method_15_code 8 = .ok (.iconst 1, 1) := by decide +kernel
theorem d19_9 : decode jdk_69_method_15_code 9 = .ok (.invokevirtual 152, 3) := by decide +kernel
theorem d24_0 : decode jdk_69_method_16_code 0 = .ok (.aload_n 0, 1) := by decide +kernel
theorem d24_1 : decode jdk_69_method_16_code 1 = .ok (.getfield 105, 3) := by decide +kernel
theorem d24_4 : decode jdk_69_method_16_code 4 = .ok (.dup, 1) := by decide +kernel
theorem d24_5 : decode jdk_69_method_16_code 5 = .ok (.astore 6, 2) := by decide +kernel
theorem d24_7 : decode jdk_69_method_16_code 7 = .ok (.ifnull 12, 3) := by decide +kernel
theorem d24_19 : decode jdk_69_method_16_code 19 = .ok (.aload_n 0, 1) := by decide +kernel
theorem d24_20 : decode jdk_69_method_16_code 20 = .ok (.invokevirtual 117, 3) := by decide +kernel
theorem d25_0 : decode jdk_69_method_17_code 0 = .ok (.aload_n 0, 1) := by decide +kernel
theorem d25_1 : decode jdk_69_method_17_code 1 = .ok (.getfield 105, 3) := by decide +kernel
theorem d25_4 : decode jdk_69_method_17_code 4 = .ok (.astore_n 1, 1) := by decide +kernel
theorem d25_5 : decode jdk_69_method_17_code 5 = .ok (.aload_n 1, 1) := by decide +kernel
theorem d25_6 : decode jdk_69_method_17_code 6 = .ok (.ifnonnull 7, 3) := by decide +kernel
theorem d25_9 : decode jdk_69_method_17_code 9 = .ok (.iconst 0, 1) := by decide +kernel
theorem d25_10 : decode jdk_69_method_17_code 10 = .ok (.goto 5, 3) := by decide +kernel
theorem d25_15 : decode jdk_69_method_17_code 15 = .ok (.istore_n 2, 1) := by decide +kernel
theorem d25_16 : decode jdk_69_method_17_code 16 = .ok (.aload_n 0, 1) := by decide +kernel
theorem d25_17 : decode jdk_69_method_17_code 17 = .ok (.getfield 88, 3) := by decide +kernel
theorem d25_20 : decode jdk_69_method_17_code 20 = .ok (.istore_n 3, 1) := by decide +kernel
theorem d25_21 : decode jdk_69_method_17_code 21 = .ok (.iconst 0, 1) := by decide +kernel
theorem d25_22 : decode jdk_69_method_17_code 22 = .ok (.istore 5, 2) := by decide +kernel
theorem d25_24 : decode jdk_69_method_17_code 24 = .ok (.iload_n 2, 1) := by decide +kernel
theorem d25_25 : decode jdk_69_method_17_code 25 = .ok (.ifCond .le 42, 3) := by decide +kernel
theorem d25_67 : decode jdk_69_method_17_code 67 = .ok (.iload_n 3, 1) := by decide +kernel
theorem d25_68 : decode jdk_69_method_17_code 68 = .ok (.ifCond .le 9, 3) := by decide +kernel
theorem d25_77 : decode jdk_69_method_17_code 77 = .ok (.bipush 16, 2) := by decide +kernel
theorem d25_79 : decode jdk_69_method_17_code 79 = .ok (.istore 4, 2) := by decide +kernel
theorem d25_81 : decode jdk_69_method_17_code 81 = .ok (.bipush 12, 2) := by decide +kernel
theorem d25_83 : decode jdk_69_method_17_code 83 = .ok (.istore 5, 2) := by decide +kernel
theorem d25_85 : decode jdk_69_method_17_code 85 = .ok (.iload 5, 2) := by decide +kernel
theorem d25_87 : decode jdk_69_method_17_code 87 = .ok (.ifCond .ne 38, 3) := by decide +kernel
theorem d25_125 : decode jdk_69_method_17_code 125 = .ok (.aload_n 0, 1) := by decide +kernel
theorem d25_126 : decode jdk_69_method_17_code 126 = .ok (.iload 5, 2) := by decide +kernel
theorem d25_128 : decode jdk_69_method_17_code 128 = .ok (.putfield 88, 3) := by decide +kernel
theorem d25_131 : decode jdk_69_method_17_code 131 = .ok (.iload 4, 2) := by decide +kernel
theorem d25_133 : decode jdk_69_method_17_code 133 = .ok (.anewarray 163, 3) := by decide +kernel
theorem d25_136 : decode jdk_69_method_17_code 136 = .ok (.astore 6, 2) := by decide +kernel
theorem d25_138 : decode jdk_69_method_17_code 138 = .ok (.aload_n 0, 1) := by decide +kernel
theorem d25_139 : decode jdk_69_method_17_code 139 = .ok (.aload 6, 2) := by decide +kernel
theorem d25_141 : decode jdk_69_method_17_code 141 = .ok (.putfield 105, 3) := by decide +kernel
theorem d25_144 : decode jdk_69_method_17_code 144 = .ok (.aload_n 1, 1) := by decide +kernel
theorem d25_145 : decode jdk_69_method_17_code 145 = .ok (.ifnull 208, 3) := by decide +kernel
theorem d25_353 : decode jdk_69_method_17_code 353 = .ok (.aload 6, 2) := by decide +kernel
theorem d25_355 : decode jdk_69_method_17_code 355 = .ok (.areturn, 1) := by decide +kernel
def Q25_0 (Z : State) (w_EMPTY_MAP w_cache w_mir0 w_mir1 : Addr) (z_COMPACT_STRINGS : Int32) (o0 : Addr) (h0 : Heap) (n0 : Nat) (v : Option Value) (h : Heap) (L : List Loc) : Prop := ∃ (b5 : Addr), ∃ (k5 : ClassId), v = (some (.ref b5)) ∧ Fr n0 L ∧ Keep h0 h [o0] ∧ Exa Z h o0 sC1 ∧ Fld Z h o0 sC0 "loadFactor" "F" (.float (1061158912 : UInt32)) ∧ Fld Z h o0 sC0 "modCount" "I" (.int 0) ∧ Fld Z h o0 sC0 "size" "I" (.int 0) ∧ Fld Z h o0 sC0 "table" "[Ljava/util/HashMap$Node;" (.ref b5) ∧ Fld Z h o0 sC0 "threshold" "I" (.int 12) ∧ Fld Z h o0 sC1 "accessOrder" "Z" (.int 0) ∧ Fld Z h o0 sC1 "head" "Ljava/util/LinkedHashMap$Entry;" .null ∧ Fld Z h o0 sC1 "putMode" "I" (.int 0) ∧ Fld Z h o0 sC1 "tail" "Ljava/util/LinkedHashMap$Entry;" .null ∧ OAv Z h b5 k5 sC3 (16 : Int32) ∧ h0.size ≤ b5
theorem rm25_0 (l : Launch) (Z : State) (a0 : Array Value) (hw : HW Z a0) (ws : List Jvm.Cond) (w_EMPTY_MAP w_cache w_mir0 w_mir1 : Addr) (z_COMPACT_STRINGS : Int32) (o0 : Addr) (h0 : Heap) (n0 : Nat) (O0 : Old Z n0 h0) (S : SF Z w_EMPTY_MAP w_cache w_mir0 w_mir1 z_COMPACT_STRINGS) (E_o0 : Exa Z h0 o0 sC1) (F_loadFactor_o0 : Fld Z h0 o0 sC0 "loadFactor" "F" (.float (1061158912 : UInt32))) (F_modCount_o0 : Fld Z h0 o0 sC0 "modCount" "I" (.int 0)) (F_size_o0 : Fld Z h0 o0 sC0 "size" "I" (.int 0)) (F_table_o0 : Fld Z h0 o0 sC0 "table" "[Ljava/util/HashMap$Node;" .null) (F_threshold_o0 : Fld Z h0 o0 sC0 "threshold" "I" (.int 0)) (F_accessOrder_o0 : Fld Z h0 o0 sC1 "accessOrder" "Z" (.int 0)) (F_head_o0 : Fld Z h0 o0 sC1 "head" "Ljava/util/LinkedHashMap$Entry;" .null) (F_putMode_o0 : Fld Z h0 o0 sC1 "putMode" "I" (.int 0)) (F_tail_o0 : Fld Z h0 o0 sC1 "tail" "Ljava/util/LinkedHashMap$Entry;" .null) (g_o0 : n0 ≤ o0) :
    Pay l Z My25 ws jdk_69_method_17_code 14 (some (.array (.object sC3))) #[(.ref o0)] h0 ({ frames := 0, cells := 1, slots := 16, locals := 0 } : Room) (Q25_0 Z w_EMPTY_MAP w_cache w_mir0 w_mir1 z_COMPACT_STRINGS o0 h0 n0) := by
  refine own_body (plainFor_of_name pn_9) (L0 := #[va o0, uu, uu, uu, uu, uu, uu, uu, uu, uu, uu, uu, uu, uu]) (fun _ => by first | rfl | (simp [entryFrame, mkF, argsToLocals, Value.category]; done)) ?_
  intro p e s m below meth c s₁ hrt hlk hx hby hml hZ hown0 hnm X0 e0
  have hown : s.vm.findClass sC0 = some m.cls := hown0
  have N0 := Fr.nil n0
  have K0 : Keep h0 h0 [o0] := Keep.refl _ _
  obtain ⟨T1, X1, e1, st1⟩ := getF X0 hx hZ hown (host := "") (Or.inl (ww hw 154 rfl)) Via.refl e0 F_table_o0 (g := (mkF m 1 #[va o0, uu, uu, uu, uu, uu, uu, uu, uu, uu, uu, uu, uu, uu] [(.ref o0)])) rfl rfl (hb hby d25_1)
  obtain ⟨T2, X2, e2, st2⟩ := getF X1 hx hZ hown (host := "") (Or.inl (ww hw 161 rfl)) Via.refl e1 F_threshold_o0 (g := (mkF m 17 #[va o0, .val .null, vi 0, uu, uu, uu, uu, uu, uu, uu, uu, uu, uu, uu] [(.ref o0)])) rfl rfl (hb hby d25_17)
  obtain ⟨T3, h3, X3, e3, W3, st3⟩ := putF X2 hx hZ hown (host := "") (Or.inl (ww hw 161 rfl)) Via.refl e2 F_threshold_o0 E_o0 (Or.inl (ww hw 162 rfl)) (ww hw 76 rfl) (ty := .int) (by decide) rfl rfl (g := (mkF m 128 #[va o0, .val .null, vi 0, vi 0, vi 16, vi 12, uu, uu, uu, uu, uu, uu, uu, uu] [(.int 12), (.ref o0)])) rfl rfl (hb hby d25_128)
  have Fw3 := F_threshold_o0.same W3
  have O3 := O0.wr W3 g_o0
  have K3 : Keep h0 h3 [o0] := K0.wr W3 (Or.inl (List.mem_of_getElem? (i := 0) rfl))
  have N3 := Fr.snoc X3 N0 g_o0
  have fc4 := (E_o0.wr W3)
  obtain ⟨T5, h5, k5, X5, e5, E5, A5, Ov5, st5⟩ := newR X3 hx hZ hown (ww hw 163 rfl) (ww hw 164 rfl) e3 (g := (mkF m 133 #[va o0, .val .null, vi 0, vi 0, vi 16, vi 12, uu, uu, uu, uu, uu, uu, uu, uu] [(.int 16)])) rfl (hb hby d25_133) rfl (by decide) (cap := 16) (by decide) (by decide) (by decide) (by decide)
  obtain ⟨b5, qs5⟩ : ∃ z, z = h3.size := ⟨_, rfl⟩
  rw [← qs5] at A5 st5
  have ne_o0_b5 : o0 ≠ b5 := Nat.ne_of_lt (Nat.lt_of_lt_of_le fc4.lt (Nat.le_of_eq qs5.symm))
  have g_b5 : n0 ≤ b5 := Nat.le_trans (own_old O3) (Nat.le_of_eq qs5.symm)
  have sz_b5 : h0.size ≤ b5 := Nat.le_trans K3.1 (Nat.le_of_eq qs5.symm)
  have O5 := O3.ext E5
  have K5 : Keep h0 h5 [o0] := K3.ext E5
  have V_b5 : OAv Z h5 b5 k5 sC3 (16 : Int32) := ⟨Arv.new A5 (by decide), Ov5⟩
  have fc6 := ((F_table_o0.other W3 (Or.inr (slot_ne (Or.inl (ww hw 155 rfl)) (Or.inl (ww hw 162 rfl)) (by decide) (t := (.array (.object sC3))) (t' := .int) (by decide) (by decide)))).ext E5)
  have fc7 := (fc4.ext E5)
  obtain ⟨T8, h8, X8, e8, W8, st8⟩ := putF X5 hx hZ hown (host := "") (Or.inl (ww hw 154 rfl)) Via.refl e5 fc6 fc7 (Or.inl (ww hw 155 rfl)) (ww hw 76 rfl) (ty := (.array (.object sC3))) (by decide) rfl rfl (g := (mkF m 141 #[va o0, .val .null, vi 0, vi 0, vi 16, vi 12, va b5, uu, uu, uu, uu, uu, uu, uu] [(.ref b5), (.ref o0)])) rfl rfl (hb hby d25_141)
  have Fw8 := fc6.same W8
  have O8 := O5.wr W8 g_o0
  have K8 : Keep h0 h8 [o0] := K5.wr W8 (Or.inl (List.mem_of_getElem? (i := 0) rfl))
  have N8 := Fr.snoc X8 N3 g_o0
  obtain ⟨fs, hr, hrun, hended, hW, hsame⟩ := X8.leave (v := (some (.ref b5))) (fun h => by rw [hrt] at h; cases h)
  have fc9 := (fc7.wr W8)
  have fc10 := (((F_loadFactor_o0.other W3 (Or.inr (slot_ne (Or.inr (ww hw 96 rfl)) (Or.inl (ww hw 162 rfl)) (by decide) (t := .float) (t' := .int) (by decide) (by decide)))).ext E5).other W8 (Or.inr (slot_ne (Or.inr (ww hw 96 rfl)) (Or.inl (ww hw 155 rfl)) (by decide) (t := .float) (t' := (.array (.object sC3))) (by decide) (by decide))))
  have fc11 := (((F_modCount_o0.other W3 (Or.inr (slot_ne (Or.inl (ww hw 203 rfl)) (Or.inl (ww hw 162 rfl)) (by decide) (t := .int) (t' := .int) (by decide) (by decide)))).ext E5).other W8 (Or.inr (slot_ne (Or.inl (ww hw 203 rfl)) (Or.inl (ww hw 155 rfl)) (by decide) (t := .int) (t' := (.array (.object sC3))) (by decide) (by decide))))
  have fc12 := (((F_size_o0.other W3 (Or.inr (slot_ne (Or.inl (ww hw 205 rfl)) (Or.inl (ww hw 162 rfl)) (by decide) (t := .int) (t' := .int) (by decide) (by decide)))).ext E5).other W8 (Or.inr (slot_ne (Or.inl (ww hw 205 rfl)) (Or.inl (ww hw 155 rfl)) (by decide) (t := .int) (t' := (.array (.object sC3))) (by decide) (by decide))))
  have fc13 := ((Fw3.ext E5).other W8 (Or.inr (slot_ne (Or.inl (ww hw 162 rfl)) (Or.inl (ww hw 155 rfl)) (by decide) (t := .int) (t' := (.array (.object sC3))) (by decide) (by decide))))
  have fc14 := (((F_accessOrder_o0.other W3 (Or.inr (slot_ne (Or.inr (ww hw 100 rfl)) (Or.inl (ww hw 162 rfl)) (by decide) (t := .boolean) (t' := .int) (by decide) (by decide)))).ext E5).other W8 (Or.inr (slot_ne (Or.inr (ww hw 100 rfl)) (Or.inl (ww hw 155 rfl)) (by decide) (t := .boolean) (t' := (.array (.object sC3))) (by decide) (by decide))))
  have fc15 := (((F_head_o0.other W3 (Or.inr (slot_ne (Or.inl (ww hw 201 rfl)) (Or.inl (ww hw 162 rfl)) (by decide) (t := (.object sC4)) (t' := .int) (by decide) (by decide)))).ext E5).other W8 (Or.inr (slot_ne (Or.inl (ww hw 201 rfl)) (Or.inl (ww hw 155 rfl)) (by decide) (t := (.object sC4)) (t' := (.array (.object sC3))) (by decide) (by decide))))
  have fc16 := (((F_putMode_o0.other W3 (Or.inr (slot_ne (Or.inl (ww hw 98 rfl)) (Or.inl (ww hw 162 rfl)) (by decide) (t := .int) (t' := .int) (by decide) (by decide)))).ext E5).other W8 (Or.inr (slot_ne (Or.inl (ww hw 98 rfl)) (Or.inl (ww hw 155 rfl)) (by decide) (t := .int) (t' := (.array (.object sC3))) (by decide) (by decide))))
  have fc17 := (((F_tail_o0.other W3 (Or.inr (slot_ne (Or.inl (ww hw 199 rfl)) (Or.inl (ww hw 162 rfl)) (by decide) (t := (.object sC4)) (t' := .int) (by decide) (by decide)))).ext E5).other W8 (Or.inr (slot_ne (Or.inl (ww hw 199 rfl)) (Or.inl (ww hw 155 rfl)) (by decide) (t := (.object sC4)) (t' := (.array (.object sC3))) (by decide) (by decide))))
  have fc18 := (V_b5.other W8 (Ne.symm ne_o0_b5))
  refine ⟨_, _, ?_, hrun, hended, _, _, rfl, ?_, ⟨_, rfl⟩, hW, hsame.mono (by decide) (by decide)⟩
  · show Steps p.tables e below (s₁.setTop (mkF m 0 #[va o0, uu, uu, uu, uu, uu, uu, uu, uu, uu, uu, uu, uu, uu] [])) _
    refine XS.aloadN X0.here hx rfl (hb hby d25_0) rfl rfl ?_
    refine st1 _ ?_
    refine XS.astoreN X1.here hx rfl (hb hby d25_4) rfl rfl (l' := #[va o0, .val .null, uu, uu, uu, uu, uu, uu, uu, uu, uu, uu, uu, uu]) rfl ?_
    refine XS.aloadN X1.here hx rfl (hb hby d25_5) rfl rfl ?_
    refine XS.ifnonnullNo X1.here hx rfl (hb hby d25_6) rfl ?_
    refine XS.iconst X1.here hx rfl (hb hby d25_9) ?_
    refine XS.goto X1.here hx rfl (pc0 := 10) (pc' := 15) rfl (hb hby d25_10) (by decide) (by decide) ?_
    refine XS.istoreN X1.here hx rfl (hb hby d25_15) rfl (l' := #[va o0, .val .null, vi 0, uu, uu, uu, uu, uu, uu, uu, uu, uu, uu, uu]) rfl ?_
    show Steps p.tables e below (T1.setTop (mkF m 16 #[va o0, .val .null, vi 0, uu, uu, uu, uu, uu, uu, uu, uu, uu, uu, uu] [])) _
    refine XS.aloadN X1.here hx rfl (hb hby d25_16) rfl rfl ?_
    refine st2 _ ?_
    refine XS.istoreN X2.here hx rfl (hb hby d25_20) rfl (l' := #[va o0, .val .null, vi 0, vi 0, uu, uu, uu, uu, uu, uu, uu, uu, uu, uu]) rfl ?_
    refine XS.iconst X2.here hx rfl (hb hby d25_21) ?_
    refine XS.istore X2.here hx rfl (hb hby d25_22) rfl (l' := #[va o0, .val .null, vi 0, vi 0, uu, vi 0, uu, uu, uu, uu, uu, uu, uu, uu]) rfl ?_
    refine XS.iloadN X2.here hx rfl (hb hby d25_24) rfl ?_
    refine XS.ifYes X2.here hx rfl (pc0 := 25) (pc' := 67) rfl (hb hby d25_25) rfl ((if0 _ _).trans (flt (by decide : ¬ ((0 : Int32) < (0 : Int32)))).2.2.2) (by decide) (by decide) ?_
    refine XS.iloadN X2.here hx rfl (hb hby d25_67) rfl ?_
    show Steps p.tables e below (T2.setTop (mkF m 68 #[va o0, .val .null, vi 0, vi 0, uu, vi 0, uu, uu, uu, uu, uu, uu, uu, uu] [(.int 0)])) _
    refine XS.ifYes X2.here hx rfl (pc0 := 68) (pc' := 77) rfl (hb hby d25_68) rfl ((if0 _ _).trans (flt (by decide : ¬ ((0 : Int32) < (0 : Int32)))).2.2.2) (by decide) (by decide) ?_
    refine XS.bipush X2.here hx rfl (hb hby d25_77) ?_
    refine XS.istore X2.here hx rfl (hb hby d25_79) rfl (l' := #[va o0, .val .null, vi 0, vi 0, vi 16, vi 0, uu, uu, uu, uu, uu, uu, uu, uu]) rfl ?_
    refine XS.bipush X2.here hx rfl (hb hby d25_81) ?_
    refine XS.istore X2.here hx rfl (hb hby d25_83) rfl (l' := #[va o0, .val .null, vi 0, vi 0, vi 16, vi 12, uu, uu, uu, uu, uu, uu, uu, uu]) rfl ?_
    refine XS.iload X2.here hx rfl (hb hby d25_85) rfl ?_
    refine XS.ifYes X2.here hx rfl (pc0 := 87) (pc' := 125) rfl (hb hby d25_87) rfl ((if0 _ _).trans (feq (by decide : ¬ ((12 : Int32) = (0 : Int32)))).2) (by decide) (by decide) ?_
    refine XS.aloadN X2.here hx rfl (hb hby d25_125) rfl rfl ?_
    show Steps p.tables e below (T2.setTop (mkF m 126 #[va o0, .val .null, vi 0, vi 0, vi 16, vi 12, uu, uu, uu, uu, uu, uu, uu, uu] [(.ref o0)])) _
    refine XS.iload X2.here hx rfl (hb hby d25_126) rfl ?_
    refine st3 _ ?_
    refine XS.iload X3.here hx rfl (hb hby d25_131) rfl ?_
    refine st5 _ ?_
    refine XS.astore X5.here hx rfl (hb hby d25_136) rfl rfl (l' := #[va o0, .val .null, vi 0, vi 0, vi 16, vi 12, va b5, uu, uu, uu, uu, uu, uu, uu]) rfl ?_
    refine XS.aloadN X5.here hx rfl (hb hby d25_138) rfl rfl ?_
    refine XS.aload X5.here hx rfl (hb hby d25_139) rfl rfl ?_
    refine st8 _ ?_
    show Steps p.tables e below (T8.setTop (mkF m 144 #[va o0, .val .null, vi 0, vi 0, vi 16, vi 12, va b5, uu, uu, uu, uu, uu, uu, uu] [])) _
    refine XS.aloadN X8.here hx rfl (hb hby d25_144) rfl rfl ?_
    refine XS.ifnullYes X8.here hx rfl (pc0 := 145) (pc' := 353) rfl (hb hby d25_145) rfl (by decide) (by decide) ?_
    refine XS.aload X8.here hx rfl (hb hby d25_353) rfl rfl ?_
    exact retOut X8 hx (t := (.array (.object sC3))) (i := .areturn) hrt rfl (Or.inr (Or.inr (Or.inr (Or.inr ⟨rfl, rfl, rfl⟩)))) (hb hby d25_355) hr
  · show Q25_0 Z w_EMPTY_MAP w_cache w_mir0 w_mir1 z_COMPACT_STRINGS o0 h0 n0 (some (.ref b5)) T8.heap _
    rw [e8]; exact ⟨b5, k5, rfl, N8, K8, fc9, fc10, fc11, fc12, Fw8, fc13, fc14, fc15, fc16, fc17, fc18, sz_b5⟩
theorem pd_19 : parseMethodDescriptor "()[Ljava/util/HashMap$Node;" = some ⟨[], some (.array (.object sC3))⟩ := by decide +kernel
theorem d24_23 : decode jdk_69_method_16_code 23 = .ok (.dup, 1) := by decide +kernel
theorem d24_24 : decode jdk_69_method_16_code 24 = .ok (.astore 6, 2) := by decide +kernel
theorem d24_26 : decode jdk_69_method_16_code 26 = .ok (.arraylength, 1) := by decide +kernel
theorem d24_27 : decode jdk_69_method_16_code 27 = .ok (.istore 8, 2) := by decide +kernel
theorem d24_29 : decode jdk_69_method_16_code 29 = .ok (.aload 6, 2) := by decide +kernel
theorem d24_31 : decode jdk_69_method_16_code 31 = .ok (.iload 8, 2) := by decide +kernel
theorem d24_33 : decode jdk_69_method_16_code 33 = .ok (.iconst 1, 1) := by decide +kernel
theorem d24_34 : decode jdk_69_method_16_code 34 = .ok (.isub, 1) := by decide +kernel
theorem d24_35 : decode jdk_69_method_16_code 35 = .ok (.iload_n 1, 1) := by decide +kernel
theorem d24_36 : decode jdk_69_method_16_code 36 = .ok (.iand, 1) := by decide +kernel
theorem d24_37 : decode jdk_69_method_16_code 37 = .ok (.dup, 1) := by decide +kernel
theorem d24_38 : decode jdk_69_method_16_code 38 = .ok (.istore 9, 2) := by decide +kernel
theorem d24_40 : decode jdk_69_method_16_code 40 = .ok (.aaload, 1) := by decide +kernel
theorem d24_41 : decode jdk_69_method_16_code 41 = .ok (.dup, 1) := by decide +kernel
theorem d24_42 : decode jdk_69_method_16_code 42 = .ok (.astore 7, 2) := by decide +kernel
theorem d24_44 : decode jdk_69_method_16_code 44 = .ok (.ifnonnull 19, 3) := by decide +kernel
theorem d24_47 : decode jdk_69_method_16_code 47 = .ok (.aload 6, 2) := by decide +kernel
theorem d24_49 : decode jdk_69_method_16_code 49 = .ok (.iload 9, 2) := by decide +kernel
theorem d24_51 : decode jdk_69_method_16_code 51 = .ok (.aload_n 0, 1) := by decide +kernel
theorem d24_52 : decode jdk_69_method_16_code 52 = .ok (.iload_n 1, 1) := by decide +kernel
theorem d24_53 : decode jdk_69_method_16_code 53 = .ok (.aload_n 2, 1) := by decide +kernel
theorem d24_54 : decode jdk_69_method_16_code 54 = .ok (.aload_n 3, 1) := by decide +kernel
theorem d24_55 : decode jdk_69_method_16_code 55 = .ok (.aconst_null, 1) := by decide +kernel
theorem d24_56 : decode jdk_69_method_16_code 56 = .ok (.invokevirtual 186, 3) := by decide +kernel
theorem d26_0 : decode jdk_94_method_4_code 0 = .ok (.new 15, 3) := by decide +kernel
theorem d26_3 : decode jdk_94_method_4_code 3 = .ok (.dup, 1) := by decide +kernel
theorem d26_4 : decode jdk_94_method_4_code 4 = .ok (.iload_n 1, 1) := by decide +kernel
theorem d26_5 : decode jdk_94_method_4_code 5 = .ok (.aload_n 2, 1) := by decide +kernel
theorem d26_6 : decode jdk_94_method_4_code 6 = .ok (.aload_n 3, 1) := by decide +kernel
theorem d26_7 : decode jdk_94_method_4_code 7 = .ok (.aload 4, 2) := by decide +kernel
theorem d26_9 : decode jdk_94_method_4_code 9 = .ok (.invokespecial 28, 3) := by decide +kernel
theorem pn_12 : plainName "java/util/LinkedHashMap$Entry" = true := by first | (simp [plainName, overriddenIn]; done) | decide +kernel
theorem d27_0 : decode jdk_83_method_1_code 0 = .ok (.aload_n 0, 1) := by decide +kernel
theorem d27_1 : decode jdk_83_method_1_code 1 = .ok (.iload_n 1, 1) := by decide +kernel
theorem d27_2 : decode jdk_83_method_1_code 2 = .ok (.aload_n 2, 1) := by decide +kernel
theorem d27_3 : decode jdk_83_method_1_code 3 = .ok (.aload_n 3, 1) := by decide +kernel
theorem d27_4 : decode jdk_83_method_1_code 4 = .ok (.aload 4, 2) := by decide +kernel
theorem d27_6 : decode jdk_83_method_1_code 6 = .ok (.invokespecial 1, 3) := by decide +kernel
theorem pn_13 : plainName "java/util/HashMap$Node" = true := by first | (simp [plainName, overriddenIn]; done) | decide +kernel
theorem d28_0 : decode jdk_70_method_1_code 0 = .ok (.aload_n 0, 1) := by decide +kernel
theorem d28_1 : decode jdk_70_method_1_code 1 = .ok (.invokespecial 1, 3) := by decide +kernel
theorem d28_4 : decode jdk_70_method_1_code 4 = .ok (.aload_n 0, 1) := by decide +kernel
theorem d28_5 : decode jdk_70_method_1_code 5 = .ok (.iload_n 1, 1) := by decide +kernel
theorem d28_6 : decode jdk_70_method_1_code 6 = .ok (.putfield 7, 3) := by decide +kernel
theorem d28_9 : decode jdk_70_method_1_code 9 = .ok (.aload_n 0, 1) := by decide +kernel
theorem d28_10 : decode jdk_70_method_1_code 10 = .ok (.aload_n 2, 1) := by decide +kernel
theorem d28_11 : decode jdk_70_method_1_code 11 = .ok (.putfield 13, 3) := by decide +kernel
theorem d28_14 : decode jdk_70_method_1_code 14 = .ok (.aload_n 0, 1) := by decide +kernel
theorem d28_15 : decode jdk_70_method_1_code 15 = .ok (.aload_n 3, 1) := by decide +kernel
theorem d28_16 : decode jdk_70_method_1_code 16 = .ok (.putfield 17, 3) := by decide +kernel
theorem d28_19 : decode jdk_70_method_1_code 19 = .ok (.aload_n 0, 1) := by decide +kernel
theorem d28_20 : decode jdk_70_method_1_code 20 = .ok (.aload 4, 2) := by decide +kernel
theorem d28_22 : decode jdk_70_method_1_code 22 = .ok (.putfield 20, 3) := by decide +kernel
theorem d28_25 : decode jdk_70_method_1_code 25 = .ok (.return_, 1) := by decide +kernel
def Q28_0 (Z : State) (w_EMPTY_MAP w_cache w_mir0 w_mir1 : Addr) (z_COMPACT_STRINGS : Int32) (o0 : Addr) (o1 : Addr) (o2 : Addr) (o3 : Addr) (kk_o2 : ClassId) (p0 : Int32) (p1 : Int32) (h0 : Heap) (n0 : Nat) (v : Option Value) (h : Heap) (L : List Loc) : Prop := v = none ∧ Fr n0 L ∧ Keep h0 h [o0] ∧ Exa Z h o0 sC4 ∧ Fld Z h o0 sC3 "hash" "I" (.int p0) ∧ Fld Z h o0 sC3 "key" "Ljava/lang/Object;" (.ref o1) ∧ Fld Z h o0 sC3 "next" "Ljava/util/HashMap$Node;" .null ∧ Fld Z h o0 sC3 "value" "Ljava/lang/Object;" (.ref o3)
theorem rm28_0 (l : Launch) (Z : State) (a0 : Array Value) (hw : HW Z a0) (ws : List Jvm.Cond) (w_EMPTY_MAP w_cache w_mir0 w_mir1 : Addr) (z_COMPACT_STRINGS : Int32) (o0 : Addr) (o1 : Addr) (o2 : Addr) (o3 : Addr) (kk_o2 : ClassId) (p0 : Int32) (p1 : Int32) (h0 : Heap) (n0 : Nat) (O0 : Old Z n0 h0) (S : SF Z w_EMPTY_MAP w_cache w_mir0 w_mir1 z_COMPACT_STRINGS) (E_o0 : Exa Z h0 o0 sC4) (F_hash_o0 : Fld Z h0 o0 sC3 "hash" "I" (.int 0)) (F_key_o0 : Fld Z h0 o0 sC3 "key" "Ljava/lang/Object;" .null) (F_next_o0 : Fld Z h0 o0 sC3 "next" "Ljava/util/HashMap$Node;" .null) (F_value_o0 : Fld Z h0 o0 sC3 "value" "Ljava/lang/Object;" .null) (g_o0 : n0 ≤ o0) :
    Pay l Z My28 ws jdk_70_method_1_code 5 none #[(.ref o0), (.int p0), (.ref o1), (.ref o3), .null] h0 ({ frames := 1, cells := 0, slots := 0, locals := 12 } : Room) (Q28_0 Z w_EMPTY_MAP w_cache w_mir0 w_mir1 z_COMPACT_STRINGS o0 o1 o2 o3 kk_o2 p0 p1 h0 n0) := by
  refine own_body (plainFor_of_name pn_13) (L0 := #[va o0, vi p0, va o1, va o3, .val .null]) (fun _ => by first | rfl | (simp [entryFrame, mkF, argsToLocals, Value.category]; done)) ?_
  intro p e s m below meth c s₁ hrt hlk hx hby hml hZ hown0 hnm X0 e0
  have hown : s.vm.findClass sC3 = some m.cls := hown0
  have N0 := Fr.nil n0
  have K0 : Keep h0 h0 [o0] := Keep.refl _ _
  obtain ⟨T1, X1, e1, st1⟩ := initO X0 hx hZ hown (ww hw 184 rfl) (ww hw 16 rfl) (ww hw 17 rfl) e0 (g := (mkF m 1 #[va o0, vi p0, va o1, va o3, .val .null] [(.ref o0)])) rfl (by rw [hml]; rfl) rfl (hb hby d28_1) (by decide) (W := 0) (by show 2 * 0 + _ ≤ _; exact Nat.le_of_eq rfl) (by decide)
  obtain ⟨T2, h2, X2, e2, W2, st2⟩ := putF X1 hx hZ hown (host := "") (Or.inl (ww hw 185 rfl)) Via.refl e1 F_hash_o0 E_o0 (Or.inr ⟨(ww hw 186 rfl), rfl, hnm⟩) (ww hw 172 rfl) (ty := .int) (by decide) rfl rfl (g := (mkF m 6 #[va o0, vi p0, va o1, va o3, .val .null] [(.int p0), (.ref o0)])) rfl rfl (hb hby d28_6)
  have Fw2 := F_hash_o0.same W2
  have O2 := O0.wr W2 g_o0
  have K2 : Keep h0 h2 [o0] := K0.wr W2 (Or.inl (List.mem_of_getElem? (i := 0) rfl))
  have N2 := Fr.snoc X2 N0 g_o0
  have fc3 := (F_key_o0.other W2 (Or.inr (slot_ne (Or.inr (ww hw 188 rfl)) (Or.inr (ww hw 186 rfl)) (by decide) (t := (.object sC5)) (t' := .int) (by decide) (by decide))))
  have fc4 := (E_o0.wr W2)
  obtain ⟨T5, h5, X5, e5, W5, st5⟩ := putF X2 hx hZ hown (host := "") (Or.inl (ww hw 187 rfl)) Via.refl e2 fc3 fc4 (Or.inr ⟨(ww hw 188 rfl), rfl, hnm⟩) (ww hw 172 rfl) (ty := (.object sC5)) (by decide) rfl rfl (g := (mkF m 11 #[va o0, vi p0, va o1, va o3, .val .null] [(.ref o1), (.ref o0)])) rfl rfl (hb hby d28_11)
  have Fw5 := fc3.same W5
  have O5 := O2.wr W5 g_o0
  have K5 : Keep h0 h5 [o0] := K2.wr W5 (Or.inl (List.mem_of_getElem? (i := 0) rfl))
  have N5 := Fr.snoc X5 N2 g_o0
  have fc6 := ((F_value_o0.other W2 (Or.inr (slot_ne (Or.inl (ww hw 190 rfl)) (Or.inr (ww hw 186 rfl)) (by decide) (t := (.object sC5)) (t' := .int) (by decide) (by decide)))).other W5 (Or.inr (slot_ne (Or.inl (ww hw 190 rfl)) (Or.inr (ww hw 188 rfl)) (by decide) (t := (.object sC5)) (t' := (.object sC5)) (by decide) (by decide))))
  have fc7 := (fc4.wr W5)
  obtain ⟨T8, h8, X8, e8, W8, st8⟩ := putF X5 hx hZ hown (host := "") (Or.inl (ww hw 189 rfl)) Via.refl e5 fc6 fc7 (Or.inl (ww hw 190 rfl)) (ww hw 172 rfl) (ty := (.object sC5)) (by decide) rfl rfl (g := (mkF m 16 #[va o0, vi p0, va o1, va o3, .val .null] [(.ref o3), (.ref o0)])) rfl rfl (hb hby d28_16)
  have Fw8 := fc6.same W8
  have O8 := O5.wr W8 g_o0
  have K8 : Keep h0 h8 [o0] := K5.wr W8 (Or.inl (List.mem_of_getElem? (i := 0) rfl))
  have N8 := Fr.snoc X8 N5 g_o0
  have fc9 := (((F_next_o0.other W2 (Or.inr (slot_ne (Or.inl (ww hw 192 rfl)) (Or.inr (ww hw 186 rfl)) (by decide) (t := (.object sC3)) (t' := .int) (by decide) (by decide)))).other W5 (Or.inr (slot_ne (Or.inl (ww hw 192 rfl)) (Or.inr (ww hw 188 rfl)) (by decide) (t := (.object sC3)) (t' := (.object sC5)) (by decide) (by decide)))).other W8 (Or.inr (slot_ne (Or.inl (ww hw 192 rfl)) (Or.inl (ww hw 190 rfl)) (by decide) (t := (.object sC3)) (t' := (.object sC5)) (by decide) (by decide))))
  have fc10 := (fc7.wr W8)
  obtain ⟨T11, h11, X11, e11, W11, st11⟩ := putF X8 hx hZ hown (host := "") (Or.inl (ww hw 191 rfl)) Via.refl e8 fc9 fc10 (Or.inl (ww hw 192 rfl)) (ww hw 172 rfl) (ty := (.object sC3)) (by decide) rfl rfl (g := (mkF m 22 #[va o0, vi p0, va o1, va o3, .val .null] [.null, (.ref o0)])) rfl rfl (hb hby d28_22)
  have Fw11 := fc9.same W11
  have O11 := O8.wr W11 g_o0
  have K11 : Keep h0 h11 [o0] := K8.wr W11 (Or.inl (List.mem_of_getElem? (i := 0) rfl))
  have N11 := Fr.snoc X11 N8 g_o0
  obtain ⟨fs, hr, hrun, hended, hW, hsame⟩ := X11.leave (v := none) (fun _ => rfl)
  have fc12 := (fc10.wr W11)
  have fc13 := (((Fw2.other W5 (Or.inr (slot_ne (Or.inr (ww hw 186 rfl)) (Or.inr (ww hw 188 rfl)) (by decide) (t := .int) (t' := (.object sC5)) (by decide) (by decide)))).other W8 (Or.inr (slot_ne (Or.inr (ww hw 186 rfl)) (Or.inl (ww hw 190 rfl)) (by decide) (t := .int) (t' := (.object sC5)) (by decide) (by decide)))).other W11 (Or.inr (slot_ne (Or.inr (ww hw 186 rfl)) (Or.inl (ww hw 192 rfl)) (by decide) (t := .int) (t' := (.object sC3)) (by decide) (by decide))))
  have fc14 := ((Fw5.other W8 (Or.inr (slot_ne (Or.inr (ww hw 188 rfl)) (Or.inl (ww hw 190 rfl)) (by decide) (t := (.object sC5)) (t' := (.object sC5)) (by decide) (by decide)))).other W11 (Or.inr (slot_ne (Or.inr (ww hw 188 rfl)) (Or.inl (ww hw 192 rfl)) (by decide) (t := (.object sC5)) (t' := (.object sC3)) (by decide) (by decide))))
  have fc15 := (Fw8.other W11 (Or.inr (slot_ne (Or.inl (ww hw 190 rfl)) (Or.inl (ww hw 192 rfl)) (by decide) (t := (.object sC5)) (t' := (.object sC3)) (by decide) (by decide))))
  refine ⟨_, _, ?_, hrun, hended, _, _, rfl, ?_, ⟨_, rfl⟩, hW, hsame.mono (by decide) (by decide)⟩
  · show Steps p.tables e below (s₁.setTop (mkF m 0 #[va o0, vi p0, va o1, va o3, .val .null] [])) _
    refine XS.aloadN X0.here hx rfl (hb hby d28_0) rfl rfl ?_
    refine st1 _ ?_
    refine XS.aloadN X1.here hx rfl (hb hby d28_4) rfl rfl ?_
    refine XS.iloadN X1.here hx rfl (hb hby d28_5) rfl ?_
    refine st2 _ ?_
    refine XS.aloadN X2.here hx rfl (hb hby d28_9) rfl rfl ?_
    refine XS.aloadN X2.here hx rfl (hb hby d28_10) rfl rfl ?_
    refine st5 _ ?_
    show Steps p.tables e below (T5.setTop (mkF m 14 #[va o0, vi p0, va o1, va o3, .val .null] [])) _
    refine XS.aloadN X5.here hx rfl (hb hby d28_14) rfl rfl ?_
    refine XS.aloadN X5.here hx rfl (hb hby d28_15) rfl rfl ?_
    refine st8 _ ?_
    refine XS.aloadN X8.here hx rfl (hb hby d28_19) rfl rfl ?_
    refine XS.aload X8.here hx rfl (hb hby d28_20) rfl rfl ?_
    refine st11 _ ?_
    exact X11.returnOut hx hrt (hb hby d28_25) hr
  · show Q28_0 Z w_EMPTY_MAP w_cache w_mir0 w_mir1 z_COMPACT_STRINGS o0 o1 o2 o3 kk_o2 p0 p1 h0 n0 none T11.heap _
    rw [e11]; exact ⟨rfl, N11, K11, fc12, fc13, fc14, Fw11, fc15⟩
theorem pd_20 : parseMethodDescriptor "(ILjava/lang/Object;Ljava/lang/Object;Ljava/util/HashMap$Node;)V" = some ⟨[.int, (.object sC5), (.object sC5), (.object sC3)], none⟩ := by decide +kernel
theorem d27_9 : decode jdk_83_method_1_code 9 = .ok (.return_, 1) := by decide +kernel
def Q27_0 (Z : State) (w_EMPTY_MAP w_cache w_mir0 w_mir1 : Addr) (z_COMPACT_STRINGS : Int32) (o0 : Addr) (o1 : Addr) (o2 : Addr) (o3 : Addr) (kk_o2 : ClassId) (p0 : Int32) (p1 : Int32) (h0 : Heap) (n0 : Nat) (v : Option Value) (h : Heap) (L : List Loc) : Prop := v = none ∧ Fr n0 L ∧ Keep h0 h [o0] ∧ Exa Z h o0 sC4 ∧ Fld Z h o0 sC3 "hash" "I" (.int p0) ∧ Fld Z h o0 sC3 "key" "Ljava/lang/Object;" (.ref o1) ∧ Fld Z h o0 sC3 "next" "Ljava/util/HashMap$Node;" .null ∧ Fld Z h o0 sC3 "value" "Ljava/lang/Object;" (.ref o3)
theorem rm27_0 (l : Launch) (Z : State) (a0 : Array Value) (hw : HW Z a0) (ws : List Jvm.Cond) (w_EMPTY_MAP w_cache w_mir0 w_mir1 : Addr) (z_COMPACT_STRINGS : Int32) (o0 : Addr) (o1 : Addr) (o2 : Addr) (o3 : Addr) (kk_o2 : ClassId) (p0 : Int32) (p1 : Int32) (h0 : Heap) (n0 : Nat) (O0 : Old Z n0 h0) (S : SF Z w_EMPTY_MAP w_cache w_mir0 w_mir1 z_COMPACT_STRINGS) (E_o0 : Exa Z h0 o0 sC4) (F_hash_o0 : Fld Z h0 o0 sC3 "hash" "I" (.int 0)) (F_key_o0 : Fld Z h0 o0 sC3 "key" "Ljava/lang/Object;" .null) (F_next_o0 : Fld Z h0 o0 sC3 "next" "Ljava/util/HashMap$Node;" .null) (F_value_o0 : Fld Z h0 o0 sC3 "value" "Ljava/lang/Object;" .null) (g_o0 : n0 ≤ o0) :
    Pay l Z My27 ws jdk_83_method_1_code 5 none #[(.ref o0), (.int p0), (.ref o1), (.ref o3), .null] h0 ({ frames := 2, cells := 0, slots := 0, locals := 28 } : Room) (Q27_0 Z w_EMPTY_MAP w_cache w_mir0 w_mir1 z_COMPACT_STRINGS o0 o1 o2 o3 kk_o2 p0 p1 h0 n0) := by
  refine own_body (plainFor_of_name pn_12) (L0 := #[va o0, vi p0, va o1, va o3, .val .null]) (fun _ => by first | rfl | (simp [entryFrame, mkF, argsToLocals, Value.category]; done)) ?_
  intro p e s m below meth c s₁ hrt hlk hx hby hml hZ hown0 hnm X0 e0
  have hown : s.vm.findClass sC4 = some m.cls := hown0
  have N0 := Fr.nil n0
  have K0 : Keep h0 h0 [o0] := Keep.refl _ _
  obtain ⟨_, _, ⟨T1, L1, k1, n1⟩, -, X1, ⟨Lc1, hQ1, l1, y1, z1⟩, st1⟩ := X0.specialBack hx (y := My28) rfl hown (mvT hZ (ww hw 178 rfl)) (mvT hZ (ww hw 179 rfl)) (mvT hZ (ww hw 183 rfl)) (by decide) (backOf (W := 0) (rm28_0 l Z a0 hw [] w_EMPTY_MAP w_cache w_mir0 w_mir1 z_COMPACT_STRINGS o0 o1 o2 o3 kk_o2 p0 p1 h0 n0 O0 S E_o0 F_hash_o0 F_key_o0 F_next_o0 F_value_o0 g_o0) hZ (ww hw 183 rfl) (ww hw 182 rfl) (by decide) (by decide)) (g := (mkF m 6 #[va o0, vi p0, va o1, va o3, .val .null] [.null, (.ref o3), (.ref o1), (.int p0), (.ref o0)])) rfl (by rw [hml]; rfl) (Steps.refl _) (a := o0) (argsL := [(.int p0), (.ref o1), (.ref o3), .null]) (rest := []) (lenOf pd_20 rfl) rfl (by show 2 * 0 + _ ≤ _; exact Nat.le_of_eq rfl) (hb hby d27_6) (fun _ _ => ⟨rfl, e0, (by decide : 0 + 0 ≤ _), (by decide : 0 + 0 ≤ _)⟩)
  dsimp only [Pt.U, Pt.locs, Pt.cells, Pt.slots] at X1 l1 y1 z1 st1 hQ1
  subst l1 y1 z1
  obtain ⟨rfl, Nq1, Kc1, P0_1, P1_1, P2_1, P3_1, P4_1⟩ := hQ1
  have N1 := Fr.app N0 Nq1
  have O1 := O0.keep Kc1 (allS g_o0 all0)
  have K1 : Keep h0 T1.heap [o0] := K0.trans Kc1 (allS (Or.inl (List.mem_of_getElem? (i := 0) rfl)) all0)
  obtain ⟨fs, hr, hrun, hended, hW, hsame⟩ := X1.leave (v := none) (fun _ => rfl)
  refine ⟨_, _, ?_, hrun, hended, _, _, rfl, ?_, ⟨_, rfl⟩, hW, hsame.mono (by decide) (by decide)⟩
  · show Steps p.tables e below (s₁.setTop (mkF m 0 #[va o0, vi p0, va o1, va o3, .val .null] [])) _
    refine XS.aloadN X0.here hx rfl (hb hby d27_0) rfl rfl ?_
    refine XS.iloadN X0.here hx rfl (hb hby d27_1) rfl ?_
    refine XS.aloadN X0.here hx rfl (hb hby d27_2) rfl rfl ?_
    refine XS.aloadN X0.here hx rfl (hb hby d27_3) rfl rfl ?_
    refine XS.aload X0.here hx rfl (hb hby d27_4) rfl rfl ?_
    refine st1.trans ?_
    exact X1.returnOut hx hrt (hb hby d27_9) hr
  · show Q27_0 Z w_EMPTY_MAP w_cache w_mir0 w_mir1 z_COMPACT_STRINGS o0 o1 o2 o3 kk_o2 p0 p1 h0 n0 none T1.heap _
    exact (⟨rfl, N1, K1, P0_1, P1_1, P2_1, P3_1, P4_1⟩)
theorem d26_12 : decode jdk_94_method_4_code 12 = .ok (.astore 5, 2) := by decide +kernel
theorem d26_14 : decode jdk_94_method_4_code 14 = .ok (.aload_n 0, 1) := by decide +kernel
theorem d26_15 : decode jdk_94_method_4_code 15 = .ok (.aload 5, 2) := by decide +kernel
theorem d26_17 : decode jdk_94_method_4_code 17 = .ok (.invokevirtual 32, 3) := by decide +kernel
theorem d29_0 : decode jdk_94_method_1_code 0 = .ok (.aload_n 0, 1) := by decide +kernel
theorem d29_1 : decode jdk_94_method_1_code 1 = .ok (.getfield 1, 3) := by decide +kernel
theorem d29_4 : decode jdk_94_method_1_code 4 = .ok (.iconst 1, 1) := by decide +kernel
theorem d29_5 : decode jdk_94_method_1_code 5 = .ok (.if_icmp .ne 38, 3) := by decide +kernel
theorem d29_43 : decode jdk_94_method_1_code 43 = .ok (.aload_n 0, 1) := by decide +kernel
theorem d29_44 : decode jdk_94_method_1_code 44 = .ok (.getfield 11, 3) := by decide +kernel
theorem d29_47 : decode jdk_94_method_1_code 47 = .ok (.astore_n 2, 1) := by decide +kernel
theorem d29_48 : decode jdk_94_method_1_code 48 = .ok (.aload_n 0, 1) := by decide +kernel
theorem d29_49 : decode jdk_94_method_1_code 49 = .ok (.aload_n 1, 1) := by decide +kernel
theorem d29_50 : decode jdk_94_method_1_code 50 = .ok (.putfield 11, 3) := by decide +kernel
theorem d29_53 : decode jdk_94_method_1_code 53 = .ok (.aload_n 2, 1) := by decide +kernel
theorem d29_54 : decode jdk_94_method_1_code 54 = .ok (.ifnonnull 11, 3) := by decide +kernel
theorem d29_57 : decode jdk_94_method_1_code 57 = .ok (.aload_n 0, 1) := by decide +kernel
theorem d29_58 : decode jdk_94_method_1_code 58 = .ok (.aload_n 1, 1) := by decide +kernel
theorem d29_59 : decode jdk_94_method_1_code 59 = .ok (.putfield 7, 3) := by decide +kernel
theorem d29_62 : decode jdk_94_method_1_code 62 = .ok (.goto 13, 3) := by decide +kernel
theorem d29_75 : decode jdk_94_method_1_code 75 = .ok (.return_, 1) := by decide +kernel
def Q29_0 (Z : State) (w_EMPTY_MAP w_cache w_mir0 w_mir1 : Addr) (z_COMPACT_STRINGS : Int32) (o0 : Addr) (o1 : Addr) (o2 : Addr) (o3 : Addr) (o4 : Addr) (o5 : Addr) (kk_o1 : ClassId) (kk_o4 : ClassId) (p0 : Int32) (p1 : Int32) (h0 : Heap) (n0 : Nat) (v : Option Value) (h : Heap) (L : List Loc) : Prop := v = none ∧ Fr n0 L ∧ Keep h0 h [o0] ∧ Exa Z h o0 sC1 ∧ Fld Z h o0 sC0 "loadFactor" "F" (.float (1061158912 : UInt32)) ∧ Fld Z h o0 sC0 "modCount" "I" (.int 0) ∧ Fld Z h o0 sC0 "size" "I" (.int 0) ∧ Fld Z h o0 sC0 "table" "[Ljava/util/HashMap$Node;" (.ref o1) ∧ Fld Z h o0 sC0 "threshold" "I" (.int 12) ∧ Fld Z h o0 sC1 "accessOrder" "Z" (.int 0) ∧ Fld Z h o0 sC1 "head" "Ljava/util/LinkedHashMap$Entry;" (.ref o2) ∧ Fld Z h o0 sC1 "putMode" "I" (.int 0) ∧ Fld Z h o0 sC1 "tail" "Ljava/util/LinkedHashMap$Entry;" (.ref o2)
theorem rm29_0 (l : Launch) (Z : State) (a0 : Array Value) (hw : HW Z a0) (ws : List Jvm.Cond) (w_EMPTY_MAP w_cache w_mir0 w_mir1 : Addr) (z_COMPACT_STRINGS : Int32) (o0 : Addr) (o1 : Addr) (o2 : Addr) (o3 : Addr) (o4 : Addr) (o5 : Addr) (kk_o1 : ClassId) (kk_o4 : ClassId) (p0 : Int32) (p1 : Int32) (h0 : Heap) (n0 : Nat) (O0 : Old Z n0 h0) (S : SF Z w_EMPTY_MAP w_cache w_mir0 w_mir1 z_COMPACT_STRINGS) (E_o0 : Exa Z h0 o0 sC1) (F_loadFactor_o0 : Fld Z h0 o0 sC0 "loadFactor" "F" (.float (1061158912 : UInt32))) (F_modCount_o0 : Fld Z h0 o0 sC0 "modCount" "I" (.int 0)) (F_size_o0 : Fld Z h0 o0 sC0 "size" "I" (.int 0)) (F_table_o0 : Fld Z h0 o0 sC0 "table" "[Ljava/util/HashMap$Node;" (.ref o1)) (F_threshold_o0 : Fld Z h0 o0 sC0 "threshold" "I" (.int 12)) (F_accessOrder_o0 : Fld Z h0 o0 sC1 "accessOrder" "Z" (.int 0)) (F_head_o0 : Fld Z h0 o0 sC1 "head" "Ljava/util/LinkedHashMap$Entry;" .null) (F_putMode_o0 : Fld Z h0 o0 sC1 "putMode" "I" (.int 0)) (F_tail_o0 : Fld Z h0 o0 sC1 "tail" "Ljava/util/LinkedHashMap$Entry;" .null) (g_o0 : n0 ≤ o0) :
    Pay l Z My29 ws jdk_94_method_1_code 3 none #[(.ref o0), (.ref o2)] h0 ({ frames := 0, cells := 0, slots := 0, locals := 0 } : Room) (Q29_0 Z w_EMPTY_MAP w_cache w_mir0 w_mir1 z_COMPACT_STRINGS o0 o1 o2 o3 o4 o5 kk_o1 kk_o4 p0 p1 h0 n0) := by
  refine own_body (plainFor_of_name pn_8) (L0 := #[va o0, va o2, uu]) (fun _ => by first | rfl | (simp [entryFrame, mkF, argsToLocals, Value.category]; done)) ?_
  intro p e s m below meth c s₁ hrt hlk hx hby hml hZ hown0 hnm X0 e0
  have hown : s.vm.findClass sC1 = some m.cls := hown0
  have N0 := Fr.nil n0
  have K0 : Keep h0 h0 [o0] := Keep.refl _ _
  obtain ⟨T1, X1, e1, st1⟩ := getF X0 hx hZ hown (host := "") (Or.inl (ww hw 97 rfl)) Via.refl e0 F_putMode_o0 (g := (mkF m 1 #[va o0, va o2, uu] [(.ref o0)])) rfl rfl (hb hby d29_1)
  obtain ⟨T2, X2, e2, st2⟩ := getF X1 hx hZ hown (host := "") (Or.inl (ww hw 198 rfl)) Via.refl e1 F_tail_o0 (g := (mkF m 44 #[va o0, va o2, uu] [(.ref o0)])) rfl rfl (hb hby d29_44)
  obtain ⟨T3, h3, X3, e3, W3, st3⟩ := putF X2 hx hZ hown (host := "") (Or.inl (ww hw 198 rfl)) Via.refl e2 F_tail_o0 E_o0 (Or.inl (ww hw 199 rfl)) (ww hw 76 rfl) (ty := (.object sC4)) (by decide) rfl rfl (g := (mkF m 50 #[va o0, va o2, .val .null] [(.ref o2), (.ref o0)])) rfl rfl (hb hby d29_50)
  have Fw3 := F_tail_o0.same W3
  have O3 := O0.wr W3 g_o0
  have K3 : Keep h0 h3 [o0] := K0.wr W3 (Or.inl (List.mem_of_getElem? (i := 0) rfl))
  have N3 := Fr.snoc X3 N0 g_o0
  have fc4 := (F_head_o0.other W3 (Or.inr (slot_ne (Or.inl (ww hw 201 rfl)) (Or.inl (ww hw 199 rfl)) (by decide) (t := (.object sC4)) (t' := (.object sC4)) (by decide) (by decide))))
  have fc5 := (E_o0.wr W3)
  obtain ⟨T6, h6, X6, e6, W6, st6⟩ := putF X3 hx hZ hown (host := "") (Or.inl (ww hw 200 rfl)) Via.refl e3 fc4 fc5 (Or.inl (ww hw 201 rfl)) (ww hw 76 rfl) (ty := (.object sC4)) (by decide) rfl rfl (g := (mkF m 59 #[va o0, va o2, .val .null] [(.ref o2), (.ref o0)])) rfl rfl (hb hby d29_59)
  have Fw6 := fc4.same W6
  have O6 := O3.wr W6 g_o0
  have K6 : Keep h0 h6 [o0] := K3.wr W6 (Or.inl (List.mem_of_getElem? (i := 0) rfl))
  have N6 := Fr.snoc X6 N3 g_o0
  obtain ⟨fs, hr, hrun, hended, hW, hsame⟩ := X6.leave (v := none) (fun _ => rfl)
  have fc7 := (fc5.wr W6)
  have fc8 := ((F_loadFactor_o0.other W3 (Or.inr (slot_ne (Or.inr (ww hw 96 rfl)) (Or.inl (ww hw 199 rfl)) (by decide) (t := .float) (t' := (.object sC4)) (by decide) (by decide)))).other W6 (Or.inr (slot_ne (Or.inr (ww hw 96 rfl)) (Or.inl (ww hw 201 rfl)) (by decide) (t := .float) (t' := (.object sC4)) (by decide) (by decide))))
  have fc9 := ((F_modCount_o0.other W3 (Or.inr (slot_ne (Or.inl (ww hw 203 rfl)) (Or.inl (ww hw 199 rfl)) (by decide) (t := .int) (t' := (.object sC4)) (by decide) (by decide)))).other W6 (Or.inr (slot_ne (Or.inl (ww hw 203 rfl)) (Or.inl (ww hw 201 rfl)) (by decide) (t := .int) (t' := (.object sC4)) (by decide) (by decide))))
  have fc10 := ((F_size_o0.other W3 (Or.inr (slot_ne (Or.inl (ww hw 205 rfl)) (Or.inl (ww hw 199 rfl)) (by decide) (t := .int) (t' := (.object sC4)) (by decide) (by decide)))).other W6 (Or.inr (slot_ne (Or.inl (ww hw 205 rfl)) (Or.inl (ww hw 201 rfl)) (by decide) (t := .int) (t' := (.object sC4)) (by decide) (by decide))))
  have fc11 := ((F_table_o0.other W3 (Or.inr (slot_ne (Or.inl (ww hw 155 rfl)) (Or.inl (ww hw 199 rfl)) (by decide) (t := (.array (.object sC3))) (t' := (.object sC4)) (by decide) (by decide)))).other W6 (Or.inr (slot_ne (Or.inl (ww hw 155 rfl)) (Or.inl (ww hw 201 rfl)) (by decide) (t := (.array (.object sC3))) (t' := (.object sC4)) (by decide) (by decide))))
  have fc12 := ((F_threshold_o0.other W3 (Or.inr (slot_ne (Or.inl (ww hw 162 rfl)) (Or.inl (ww hw 199 rfl)) (by decide) (t := .int) (t' := (.object sC4)) (by decide) (by decide)))).other W6 (Or.inr (slot_ne (Or.inl (ww hw 162 rfl)) (Or.inl (ww hw 201 rfl)) (by decide) (t := .int) (t' := (.object sC4)) (by decide) (by decide))))
  have fc13 := ((F_accessOrder_o0.other W3 (Or.inr (slot_ne (Or.inr (ww hw 100 rfl)) (Or.inl (ww hw 199 rfl)) (by decide) (t := .boolean) (t' := (.object sC4)) (by decide) (by decide)))).other W6 (Or.inr (slot_ne (Or.inr (ww hw 100 rfl)) (Or.inl (ww hw 201 rfl)) (by decide) (t := .boolean) (t' := (.object sC4)) (by decide) (by decide))))
  have fc14 := ((F_putMode_o0.other W3 (Or.inr (slot_ne (Or.inl (ww hw 98 rfl)) (Or.inl (ww hw 199 rfl)) (by decide) (t := .int) (t' := (.object sC4)) (by decide) (by decide)))).other W6 (Or.inr (slot_ne (Or.inl (ww hw 98 rfl)) (Or.inl (ww hw 201 rfl)) (by decide) (t := .int) (t' := (.object sC4)) (by decide) (by decide))))
  have fc15 := (Fw3.other W6 (Or.inr (slot_ne (Or.inl (ww hw 199 rfl)) (Or.inl (ww hw 201 rfl)) (by decide) (t := (.object sC4)) (t' := (.object sC4)) (by decide) (by decide))))
  refine ⟨_, _, ?_, hrun, hended, _, _, rfl, ?_, ⟨_, rfl⟩, hW, hsame.mono (by decide) (by decide)⟩
  · show Steps p.tables e below (s₁.setTop (mkF m 0 #[va o0, va o2, uu] [])) _
    refine XS.aloadN X0.here hx rfl (hb hby d29_0) rfl rfl ?_
    refine st1 _ ?_
    refine XS.iconst X1.here hx rfl (hb hby d29_4) ?_
    refine XS.icmpYes X1.here hx rfl (pc0 := 5) (pc' := 43) rfl (hb hby d29_5) rfl (feq (by decide : ¬ ((0 : Int32) = (1 : Int32)))).2 (by decide) (by decide) ?_
    refine XS.aloadN X1.here hx rfl (hb hby d29_43) rfl rfl ?_
    refine st2 _ ?_
    refine XS.astoreN X2.here hx rfl (hb hby d29_47) rfl rfl (l' := #[va o0, va o2, .val .null]) rfl ?_
    refine XS.aloadN X2.here hx rfl (hb hby d29_48) rfl rfl ?_
    show Steps p.tables e below (T2.setTop (mkF m 49 #[va o0, va o2, .val .null] [(.ref o0)])) _
    refine XS.aloadN X2.here hx rfl (hb hby d29_49) rfl rfl ?_
    refine st3 _ ?_
    refine XS.aloadN X3.here hx rfl (hb hby d29_53) rfl rfl ?_
    refine XS.ifnonnullNo X3.here hx rfl (hb hby d29_54) rfl ?_
    refine XS.aloadN X3.here hx rfl (hb hby d29_57) rfl rfl ?_
    refine XS.aloadN X3.here hx rfl (hb hby d29_58) rfl rfl ?_
    refine st6 _ ?_
    refine XS.goto X6.here hx rfl (pc0 := 62) (pc' := 75) rfl (hb hby d29_62) (by decide) (by decide) ?_
    show Steps p.tables e below (T6.setTop (mkF m 75 #[va o0, va o2, .val .null] [])) _
    exact X6.returnOut hx hrt (hb hby d29_75) hr
  · show Q29_0 Z w_EMPTY_MAP w_cache w_mir0 w_mir1 z_COMPACT_STRINGS o0 o1 o2 o3 o4 o5 kk_o1 kk_o4 p0 p1 h0 n0 none T6.heap _
    rw [e6]; exact ⟨rfl, N6, K6, fc7, fc8, fc9, fc10, fc11, fc12, fc13, Fw6, fc14, fc15⟩
theorem pd_21 : parseMethodDescriptor "(Ljava/util/LinkedHashMap$Entry;)V" = some ⟨[(.object sC4)], none⟩ := by decide +kernel
theorem d26_20 : decode jdk_94_method_4_code 20 = .ok (.aload 5, 2) := by decide +kernel
theorem d26_22 : decode jdk_94_method_4_code 22 = .ok (.areturn, 1) := by decide +kernel
def Q26_0 (Z : State) (w_EMPTY_MAP w_cache w_mir0 w_mir1 : Addr) (z_COMPACT_STRINGS : Int32) (o0 : Addr) (o1 : Addr) (o2 : Addr) (o3 : Addr) (o4 : Addr) (kk_o1 : ClassId) (kk_o3 : ClassId) (p0 : Int32) (p1 : Int32) (h0 : Heap) (n0 : Nat) (v : Option Value) (h : Heap) (L : List Loc) : Prop := ∃ (b1 : Addr), v = (some (.ref b1)) ∧ Fr n0 L ∧ Keep h0 h [o0] ∧ Exa Z h o0 sC1 ∧ Fld Z h o0 sC0 "loadFactor" "F" (.float (1061158912 : UInt32)) ∧ Fld Z h o0 sC0 "modCount" "I" (.int 0) ∧ Fld Z h o0 sC0 "size" "I" (.int 0) ∧ Fld Z h o0 sC0 "table" "[Ljava/util/HashMap$Node;" (.ref o1) ∧ Fld Z h o0 sC0 "threshold" "I" (.int 12) ∧ Fld Z h o0 sC1 "accessOrder" "Z" (.int 0) ∧ Fld Z h o0 sC1 "head" "Ljava/util/LinkedHashMap$Entry;" (.ref b1) ∧ Fld Z h o0 sC1 "putMode" "I" (.int 0) ∧ Fld Z h o0 sC1 "tail" "Ljava/util/LinkedHashMap$Entry;" (.ref b1) ∧ Exa Z h b1 sC4 ∧ Fld Z h b1 sC3 "hash" "I" (.int p0) ∧ Fld Z h b1 sC3 "key" "Ljava/lang/Object;" (.ref o2) ∧ Fld Z h b1 sC3 "next" "Ljava/util/HashMap$Node;" .null ∧ Fld Z h b1 sC3 "value" "Ljava/lang/Object;" (.ref o4) ∧ h0.size ≤ b1
theorem rm26_0 (l : Launch) (Z : State) (a0 : Array Value) (hw : HW Z a0) (ws : List Jvm.Cond) (w_EMPTY_MAP w_cache w_mir0 w_mir1 : Addr) (z_COMPACT_STRINGS : Int32) (o0 : Addr) (o1 : Addr) (o2 : Addr) (o3 : Addr) (o4 : Addr) (kk_o1 : ClassId) (kk_o3 : ClassId) (p0 : Int32) (p1 : Int32) (h0 : Heap) (n0 : Nat) (O0 : Old Z n0 h0) (S : SF Z w_EMPTY_MAP w_cache w_mir0 w_mir1 z_COMPACT_STRINGS) (E_o0 : Exa Z h0 o0 sC1) (F_loadFactor_o0 : Fld Z h0 o0 sC0 "loadFactor" "F" (.float (1061158912 : UInt32))) (F_modCount_o0 : Fld Z h0 o0 sC0 "modCount" "I" (.int 0)) (F_size_o0 : Fld Z h0 o0 sC0 "size" "I" (.int 0)) (F_table_o0 : Fld Z h0 o0 sC0 "table" "[Ljava/util/HashMap$Node;" (.ref o1)) (F_threshold_o0 : Fld Z h0 o0 sC0 "threshold" "I" (.int 12)) (F_accessOrder_o0 : Fld Z h0 o0 sC1 "accessOrder" "Z" (.int 0)) (F_head_o0 : Fld Z h0 o0 sC1 "head" "Ljava/util/LinkedHashMap$Entry;" .null) (F_putMode_o0 : Fld Z h0 o0 sC1 "putMode" "I" (.int 0)) (F_tail_o0 : Fld Z h0 o0 sC1 "tail" "Ljava/util/LinkedHashMap$Entry;" .null) (V_o1 : OAv Z h0 o1 kk_o1 sC3 (16 : Int32)) (E_o2 : Exa Z h0 o2 sC2) (V_o3 : Arv Z h0 o3 kk_o3 .byte (1 : Int32) [(.int p1)] (.int 0)) (g_o0 : n0 ≤ o0) :
    Pay l Z My26 ws jdk_94_method_4_code 6 (some (.object sC3)) #[(.ref o0), (.int p0), (.ref o2), (.ref o4), .null] h0 ({ frames := 3, cells := 1, slots := 6, locals := 45 } : Room) (Q26_0 Z w_EMPTY_MAP w_cache w_mir0 w_mir1 z_COMPACT_STRINGS o0 o1 o2 o3 o4 kk_o1 kk_o3 p0 p1 h0 n0) := by
  refine own_body (plainFor_of_name pn_8) (L0 := #[va o0, vi p0, va o2, va o4, .val .null, uu]) (fun _ => by first | rfl | (simp [entryFrame, mkF, argsToLocals, Value.category]; done)) ?_
  intro p e s m below meth c s₁ hrt hlk hx hby hml hZ hown0 hnm X0 e0
  have hown : s.vm.findClass sC1 = some m.cls := hown0
  have N0 := Fr.nil n0
  have K0 : Keep h0 h0 [o0] := Keep.refl _ _
  obtain ⟨T1, h1, X1, e1, E1, A1, D1, -, st1⟩ := newO X0 hx hZ hown (ww hw 171 rfl) (ww hw 172 rfl) (ww hw 173 rfl) e0 (g := (mkF m 0 #[va o0, vi p0, va o2, va o4, .val .null, uu] [])) rfl (hb hby d26_0) (by decide) (by decide)
  obtain ⟨b1, qs1⟩ : ∃ z, z = h0.size := ⟨_, rfl⟩
  rw [← qs1] at A1 D1 st1
  have ne_o0_b1 : o0 ≠ b1 := Nat.ne_of_lt (Nat.lt_of_lt_of_le E_o0.lt (Nat.le_of_eq qs1.symm))
  have ne_o1_b1 : o1 ≠ b1 := Nat.ne_of_lt (Nat.lt_of_lt_of_le V_o1.lt (Nat.le_of_eq qs1.symm))
  have ne_o2_b1 : o2 ≠ b1 := Nat.ne_of_lt (Nat.lt_of_lt_of_le E_o2.lt (Nat.le_of_eq qs1.symm))
  have ne_o3_b1 : o3 ≠ b1 := Nat.ne_of_lt (Nat.lt_of_lt_of_le V_o3.lt (Nat.le_of_eq qs1.symm))
  have g_b1 : n0 ≤ b1 := Nat.le_trans (own_old O0) (Nat.le_of_eq qs1.symm)
  have sz_b1 : h0.size ≤ b1 := Nat.le_trans K0.1 (Nat.le_of_eq qs1.symm)
  have O1 := O0.ext E1
  have K1 : Keep h0 h1 [o0] := K0.ext E1
  have F_hash_b1 : Fld Z h1 b1 sC3 "hash" "I" (.int 0) := D1 (Or.inr (ww hw 186 rfl)) (ty := .int) (by decide)
  have F_key_b1 : Fld Z h1 b1 sC3 "key" "Ljava/lang/Object;" .null := D1 (Or.inr (ww hw 188 rfl)) (ty := (.object sC5)) (by decide)
  have F_value_b1 : Fld Z h1 b1 sC3 "value" "Ljava/lang/Object;" .null := D1 (Or.inl (ww hw 190 rfl)) (ty := (.object sC5)) (by decide)
  have F_next_b1 : Fld Z h1 b1 sC3 "next" "Ljava/util/HashMap$Node;" .null := D1 (Or.inl (ww hw 192 rfl)) (ty := (.object sC3)) (by decide)
  obtain ⟨_, _, ⟨T2, L2, k2, n2⟩, -, X2, ⟨Lc2, hQ2, l2, y2, z2⟩, st2⟩ := X1.specialBack hx (y := My27) rfl hown (mvT hZ (ww hw 174 rfl)) (mvT hZ (ww hw 175 rfl)) (mvT hZ (ww hw 177 rfl)) (by decide) (backOf (W := 1) (rm27_0 l Z a0 hw [] w_EMPTY_MAP w_cache w_mir0 w_mir1 z_COMPACT_STRINGS b1 o2 o3 o4 kk_o3 p0 p1 h1 n0 O1 S A1 F_hash_b1 F_key_b1 F_next_b1 F_value_b1 g_b1) hZ (ww hw 177 rfl) (ww hw 173 rfl) (by decide) (by decide)) (g := (mkF m 9 #[va o0, vi p0, va o2, va o4, .val .null, uu] [.null, (.ref o4), (.ref o2), (.int p0), (.ref b1), (.ref b1)])) rfl (by rw [hml]; rfl) (Steps.refl _) (a := b1) (argsL := [(.int p0), (.ref o2), (.ref o4), .null]) (rest := [(.ref b1)]) (lenOf pd_20 rfl) rfl (by show 2 * 0 + _ ≤ _; exact Nat.le_of_eq rfl) (hb hby d26_9) (fun _ _ => ⟨rfl, e1, (by decide : 1 + 0 ≤ _), (by decide : 6 + 0 ≤ _)⟩)
  dsimp only [Pt.U, Pt.locs, Pt.cells, Pt.slots] at X2 l2 y2 z2 st2 hQ2
  subst l2 y2 z2
  have fc3 := (E_o0.ext E1)
  have fc4 := (V_o1.ext E1)
  have fc5 := (E_o2.ext E1)
  have fc6 := (V_o3.ext E1)
  obtain ⟨rfl, Nq2, Kc2, P0_2, P1_2, P2_2, P3_2, P4_2⟩ := hQ2
  have N2 := Fr.app N0 Nq2
  have O2 := O1.keep Kc2 (allS g_b1 all0)
  have K2 : Keep h0 T2.heap [o0] := K1.trans Kc2 (allS (Or.inr sz_b1) all0)
  have fc7 := (fc3.keep Kc2)
  have fc8 := ((F_loadFactor_o0.ext E1).keep Kc2 (ninS ne_o0_b1 nin0))
  have fc9 := ((F_modCount_o0.ext E1).keep Kc2 (ninS ne_o0_b1 nin0))
  have fc10 := ((F_size_o0.ext E1).keep Kc2 (ninS ne_o0_b1 nin0))
  have fc11 := ((F_table_o0.ext E1).keep Kc2 (ninS ne_o0_b1 nin0))
  have fc12 := ((F_threshold_o0.ext E1).keep Kc2 (ninS ne_o0_b1 nin0))
  have fc13 := ((F_accessOrder_o0.ext E1).keep Kc2 (ninS ne_o0_b1 nin0))
  have fc14 := ((F_head_o0.ext E1).keep Kc2 (ninS ne_o0_b1 nin0))
  have fc15 := ((F_putMode_o0.ext E1).keep Kc2 (ninS ne_o0_b1 nin0))
  have fc16 := ((F_tail_o0.ext E1).keep Kc2 (ninS ne_o0_b1 nin0))
  obtain ⟨cq17, qa17, qb17⟩ := fc7.cell
  obtain ⟨_, _, ⟨T17, L17, k17, n17⟩, -, X17, ⟨Lc17, hQ17, l17, y17, z17⟩, st17⟩ := X2.privateBack hx (y := My29) hown (mvT hZ (ww hw 193 rfl)) (mvT hZ (ww hw 194 rfl)) (own_selp (by decide) (mvT hZ (ww hw 76 rfl)) (mvP hZ (ww hw 195 rfl)) (mvT hZ (ww hw 194 rfl))) (Cond.privateMethod_at (mvP hZ (ww hw 195 rfl) (args := #[]))) (mvT hZ (ww hw 197 rfl)) (by decide) (backOf (W := 0) (rm29_0 l Z a0 hw [] w_EMPTY_MAP w_cache w_mir0 w_mir1 z_COMPACT_STRINGS o0 o1 b1 o2 o3 o4 kk_o1 kk_o3 p0 p1 T2.heap n0 O2 S fc7 fc8 fc9 fc10 fc11 fc12 fc13 fc14 fc15 fc16 g_o0) hZ (ww hw 197 rfl) (ww hw 77 rfl) (by decide) (by decide)) (g := (mkF m 17 #[va o0, vi p0, va o2, va o4, .val .null, va b1] [(.ref b1), (.ref o0)])) rfl (by rw [hml]; rfl) (Steps.refl _) (a := o0) qa17 qb17 (argsL := [(.ref b1)]) (rest := []) (lenOf pd_21 rfl) rfl (by show 2 * 0 + _ ≤ _; exact Nat.le_of_eq rfl) (hb hby d26_17) (fun _ _ => ⟨rfl, rfl, (by decide : 1 + 0 ≤ _), (by decide : 6 + 0 ≤ _)⟩)
  dsimp only [Pt.U, Pt.locs, Pt.cells, Pt.slots] at X17 l17 y17 z17 st17 hQ17
  subst l17 y17 z17
  have fc18 := (fc4.keep Kc2 (ninS ne_o1_b1 nin0))
  have fc19 := (fc5.keep Kc2)
  have fc20 := (fc6.keep Kc2 (ninS ne_o3_b1 nin0))
  obtain ⟨rfl, Nq17, Kc17, P0_17, P1_17, P2_17, P3_17, P4_17, P5_17, P6_17, P7_17, P8_17, P9_17⟩ := hQ17
  have N17 := Fr.app N2 Nq17
  have O17 := O2.keep Kc17 (allS g_o0 all0)
  have K17 : Keep h0 T17.heap [o0] := K2.trans Kc17 (allS (Or.inl (List.mem_of_getElem? (i := 0) rfl)) all0)
  obtain ⟨fs, hr, hrun, hended, hW, hsame⟩ := X17.leave (v := (some (.ref b1))) (fun h => by rw [hrt] at h; cases h)
  have fc21 := (P0_2.keep Kc17)
  have fc22 := (P1_2.keep Kc17 (ninS (Ne.symm ne_o0_b1) nin0))
  have fc23 := (P2_2.keep Kc17 (ninS (Ne.symm ne_o0_b1) nin0))
  have fc24 := (P3_2.keep Kc17 (ninS (Ne.symm ne_o0_b1) nin0))
  have fc25 := (P4_2.keep Kc17 (ninS (Ne.symm ne_o0_b1) nin0))
  refine ⟨_, _, ?_, hrun, hended, _, _, rfl, ?_, ⟨_, rfl⟩, hW, hsame.mono (by decide) (by decide)⟩
  · show Steps p.tables e below (s₁.setTop (mkF m 0 #[va o0, vi p0, va o2, va o4, .val .null, uu] [])) _
    refine st1 _ ?_
    refine XS.dup X1.here hx rfl (hb hby d26_3) rfl rfl ?_
    refine XS.iloadN X1.here hx rfl (hb hby d26_4) rfl ?_
    refine XS.aloadN X1.here hx rfl (hb hby d26_5) rfl rfl ?_
    refine XS.aloadN X1.here hx rfl (hb hby d26_6) rfl rfl ?_
    refine XS.aload X1.here hx rfl (hb hby d26_7) rfl rfl ?_
    refine st2.trans ?_
    refine XS.astore X2.here hx rfl (hb hby d26_12) rfl rfl (l' := #[va o0, vi p0, va o2, va o4, .val .null, va b1]) rfl ?_
    show Steps p.tables e below (T2.setTop (mkF m 14 #[va o0, vi p0, va o2, va o4, .val .null, va b1] [])) _
    refine XS.aloadN X2.here hx rfl (hb hby d26_14) rfl rfl ?_
    refine XS.aload X2.here hx rfl (hb hby d26_15) rfl rfl ?_
    refine st17.trans ?_
    refine XS.aload X17.here hx rfl (hb hby d26_20) rfl rfl ?_
    exact retOut X17 hx (t := (.object sC3)) (i := .areturn) hrt rfl (Or.inr (Or.inr (Or.inr (Or.inr ⟨rfl, rfl, rfl⟩)))) (hb hby d26_22) hr
  · show Q26_0 Z w_EMPTY_MAP w_cache w_mir0 w_mir1 z_COMPACT_STRINGS o0 o1 o2 o3 o4 kk_o1 kk_o3 p0 p1 h0 n0 (some (.ref b1)) T17.heap _
    exact (⟨b1, rfl, N17, K17, P0_17, P1_17, P2_17, P3_17, P4_17, P5_17, P6_17, P7_17, P8_17, P9_17, fc21, fc22, fc23, fc24, fc25, sz_b1⟩)
theorem pd_22 : parseMethodDescriptor "(ILjava/lang/Object;Ljava/lang/Object;Ljava/util/HashMap$Node;)Ljava/util/HashMap$Node;" = some ⟨[.int, (.object sC5), (.object sC5), (.object sC3)], some (.object sC3)⟩ := by decide +kernel
theorem d24_59 : decode jdk_69_method_16_code 59 = .ok (.aastore, 1) := by decide +kernel
theorem d24_60 : decode jdk_69_method_16_code 60 = .ok (.goto 199, 3) := by decide +kernel
theorem d24_259 : decode jdk_69_method_16_code 259 = .ok (.aload_n 0, 1) := by decide +kernel
theorem d24_260 : decode jdk_69_method_16_code 260 = .ok (.dup, 1) := by decide +kernel
theorem d24_261 : decode jdk_69_method_16_code 261 = .ok (.getfield 202, 3) := by decide +kernel
theorem d24_264 : decode jdk_69_method_16_code 264 = .ok (.iconst 1, 1) := by decide +kernel
theorem d24_265 : decode jdk_69_method_16_code 265 = .ok (.iadd, 1) := by decide +kernel
theorem d24_266 : decode jdk_69_method_16_code 266 = .ok (.putfield 202, 3) := by decide +kernel
theorem d24_269 : decode jdk_69_method_16_code 269 = .ok (.aload_n 0, 1) := by decide +kernel
theorem d24_270 : decode jdk_69_method_16_code 270 = .ok (.dup, 1) := by decide +kernel
theorem d24_271 : decode jdk_69_method_16_code 271 = .ok (.getfield 156, 3) := by decide +kernel
theorem d24_274 : decode jdk_69_method_16_code 274 = .ok (.iconst 1, 1) := by decide +kernel
theorem d24_275 : decode jdk_69_method_16_code 275 = .ok (.iadd, 1) := by decide +kernel
theorem d24_276 : decode jdk_69_method_16_code 276 = .ok (.dup_x1, 1) := by decide +kernel
theorem d24_277 : decode jdk_69_method_16_code 277 = .ok (.putfield 156, 3) := by decide +kernel
theorem d24_280 : decode jdk_69_method_16_code 280 = .ok (.aload_n 0, 1) := by decide +kernel
theorem d24_281 : decode jdk_69_method_16_code 281 = .ok (.getfield 88, 3) := by decide +kernel
theorem d24_284 : decode jdk_69_method_16_code 284 = .ok (.if_icmp .le 8, 3) := by decide +kernel
theorem d24_292 : decode jdk_69_method_16_code 292 = .ok (.aload_n 0, 1) := by decide +kernel
theorem d24_293 : decode jdk_69_method_16_code 293 = .ok (.iload 5, 2) := by decide +kernel
theorem d24_295 : decode jdk_69_method_16_code 295 = .ok (.invokevirtual 205, 3) := by decide +kernel
theorem d30_0 : decode jdk_94_method_9_code 0 = .ok (.iload_n 1, 1) := by decide +kernel
theorem d30_1 : decode jdk_94_method_9_code 1 = .ok (.ifCond .eq 38, 3) := by decide +kernel
theorem d30_4 : decode jdk_94_method_9_code 4 = .ok (.aload_n 0, 1) := by decide +kernel
theorem d30_5 : decode jdk_94_method_9_code 5 = .ok (.getfield 7, 3) := by decide +kernel
theorem d30_8 : decode jdk_94_method_9_code 8 = .ok (.dup, 1) := by decide +kernel
theorem d30_9 : decode jdk_94_method_9_code 9 = .ok (.astore_n 2, 1) := by decide +kernel
theorem d30_10 : decode jdk_94_method_9_code 10 = .ok (.ifnull 29, 3) := by decide +kernel
theorem d30_13 : decode jdk_94_method_9_code 13 = .ok (.aload_n 0, 1) := by decide +kernel
theorem d30_14 : decode jdk_94_method_9_code 14 = .ok (.aload_n 2, 1) := by decide +kernel
theorem d30_15 : decode jdk_94_method_9_code 15 = .ok (.invokevirtual 53, 3) := by decide +kernel
theorem d31_0 : decode jdk_94_method_23_code 0 = .ok (.iconst 0, 1) := by decide +kernel
theorem d31_1 : decode jdk_94_method_23_code 1 = .ok (.ireturn, 1) := by decide +kernel
def Q31_0 (Z : State) (w_EMPTY_MAP w_cache w_mir0 w_mir1 : Addr) (z_COMPACT_STRINGS : Int32) (o0 : Addr) (o1 : Addr) (o2 : Addr) (o3 : Addr) (o4 : Addr) (o5 : Addr) (kk_o4 : ClassId) (p0 : Int32) (p1 : Int32) (h0 : Heap) (n0 : Nat) (v : Option Value) (h : Heap) (L : List Loc) : Prop := v = (some (.int 0)) ∧ Fr n0 L ∧ h = h0
theorem rm31_0 (l : Launch) (Z : State) (a0 : Array Value) (hw : HW Z a0) (ws : List Jvm.Cond) (w_EMPTY_MAP w_cache w_mir0 w_mir1 : Addr) (z_COMPACT_STRINGS : Int32) (o0 : Addr) (o1 : Addr) (o2 : Addr) (o3 : Addr) (o4 : Addr) (o5 : Addr) (kk_o4 : ClassId) (p0 : Int32) (p1 : Int32) (h0 : Heap) (n0 : Nat) (O0 : Old Z n0 h0) (S : SF Z w_EMPTY_MAP w_cache w_mir0 w_mir1 z_COMPACT_STRINGS) :
    Pay l Z My31 ws jdk_94_method_23_code 2 (some .boolean) #[(.ref o0), (.ref o2)] h0 ({ frames := 0, cells := 0, slots := 0, locals := 0 } : Room) (Q31_0 Z w_EMPTY_MAP w_cache w_mir0 w_mir1 z_COMPACT_STRINGS o0 o1 o2 o3 o4 o5 kk_o4 p0 p1 h0 n0) := by
  refine own_body (plainFor_of_name pn_8) (L0 := #[va o0, va o2]) (fun _ => by first | rfl | (simp [entryFrame, mkF, argsToLocals, Value.category]; done)) ?_
  intro p e s m below meth c s₁ hrt hlk hx hby hml hZ hown0 hnm X0 e0
  have hown : s.vm.findClass sC1 = some m.cls := hown0
  have N0 := Fr.nil n0
  have K0 : Keep h0 h0 [] := Keep.refl _ _
  obtain ⟨fs, hr, hrun, hended, hW, hsame⟩ := X0.leave (v := (some (.int 0))) (fun h => by rw [hrt] at h; cases h)
  refine ⟨_, _, ?_, hrun, hended, _, _, rfl, ?_, ⟨_, rfl⟩, hW, hsame.mono (by decide) (by decide)⟩
  · show Steps p.tables e below (s₁.setTop (mkF m 0 #[va o0, va o2] [])) _
    refine XS.iconst X0.here hx rfl (hb hby d31_0) ?_
    exact retN X0 hx (t := .boolean) hrt (by simp) (hb hby d31_1) hr
  · show Q31_0 Z w_EMPTY_MAP w_cache w_mir0 w_mir1 z_COMPACT_STRINGS o0 o1 o2 o3 o4 o5 kk_o4 p0 p1 h0 n0 (some (.int 0)) s₁.heap _
    exact (⟨rfl, N0, e0⟩)
theorem pd_23 : parseMethodDescriptor "(Ljava/util/Map$Entry;)Z" = some ⟨[(.object "java/util/Map$Entry")], some .boolean⟩ := by decide +kernel
theorem d30_18 : decode jdk_94_method_9_code 18 = .ok (.ifCond .eq 21, 3) := by decide +kernel
theorem d30_39 : decode jdk_94_method_9_code 39 = .ok (.return_, 1) := by decide +kernel
def Q30_0 (Z : State) (w_EMPTY_MAP w_cache w_mir0 w_mir1 : Addr) (z_COMPACT_STRINGS : Int32) (o0 : Addr) (o1 : Addr) (o2 : Addr) (o3 : Addr) (o4 : Addr) (o5 : Addr) (kk_o4 : ClassId) (p0 : Int32) (p1 : Int32) (h0 : Heap) (n0 : Nat) (v : Option Value) (h : Heap) (L : List Loc) : Prop := v = none ∧ Fr n0 L ∧ h = h0
theorem rm30_0 (l : Launch) (Z : State) (a0 : Array Value) (hw : HW Z a0) (ws : List Jvm.Cond) (w_EMPTY_MAP w_cache w_mir0 w_mir1 : Addr) (z_COMPACT_STRINGS : Int32) (o0 : Addr) (o1 : Addr) (o2 : Addr) (o3 : Addr) (o4 : Addr) (o5 : Addr) (kk_o4 : ClassId) (p0 : Int32) (p1 : Int32) (h0 : Heap) (n0 : Nat) (O0 : Old Z n0 h0) (S : SF Z w_EMPTY_MAP w_cache w_mir0 w_mir1 z_COMPACT_STRINGS) (E_o0 : Exa Z h0 o0 sC1) (F_head_o0 : Fld Z h0 o0 sC1 "head" "Ljava/util/LinkedHashMap$Entry;" (.ref o2)) :
    Pay l Z My30 ws jdk_94_method_9_code 4 none #[(.ref o0), (.int 1)] h0 ({ frames := 1, cells := 0, slots := 0, locals := 13 } : Room) (Q30_0 Z w_EMPTY_MAP w_cache w_mir0 w_mir1 z_COMPACT_STRINGS o0 o1 o2 o3 o4 o5 kk_o4 p0 p1 h0 n0) := by
  refine own_body (plainFor_of_name pn_8) (L0 := #[va o0, vi 1, uu, uu]) (fun _ => by first | rfl | (simp [entryFrame, mkF, argsToLocals, Value.category]; done)) ?_
  intro p e s m below meth c s₁ hrt hlk hx hby hml hZ hown0 hnm X0 e0
  have hown : s.vm.findClass sC1 = some m.cls := hown0
  have N0 := Fr.nil n0
  have K0 : Keep h0 h0 [] := Keep.refl _ _
  obtain ⟨T1, X1, e1, st1⟩ := getF X0 hx hZ hown (host := "") (Or.inl (ww hw 200 rfl)) Via.refl e0 F_head_o0 (g := (mkF m 5 #[va o0, vi 1, uu, uu] [(.ref o0)])) rfl rfl (hb hby d30_5)
  obtain ⟨cq2, kq2, q2a, q2b, q2c⟩ := isOf hZ e1 E_o0
  obtain ⟨_, _, ⟨T2, L2, k2, n2⟩, -, X2, ⟨Lc2, hQ2, l2, y2, z2⟩, st2⟩ := X1.virtualBack hx (y := My31) (z := My31) hown (mvT hZ (ww hw 212 rfl)) (mvT hZ (ww hw 213 rfl)) (notFace_of_selects (args := #[]) (mvT hZ (ww hw 215 rfl))) (mvT hZ (ww hw 215 rfl)) (mvT hZ (ww hw 214 rfl)) (by decide) (backOf (W := 0) (rm31_0 l Z a0 hw [] w_EMPTY_MAP w_cache w_mir0 w_mir1 z_COMPACT_STRINGS o0 o1 o2 o3 o4 o5 kk_o4 p0 p1 h0 n0 O0 S) hZ (ww hw 216 rfl) (ww hw 77 rfl) (by decide) (by decide)) q2a q2c (g := (mkF m 15 #[va o0, vi 1, va o2, uu] [(.ref o2), (.ref o0)])) rfl (by rw [hml]; rfl) (Steps.refl _) (argsL := [(.ref o2)]) (rest := []) (lenOf pd_23 rfl) rfl (by show 2 * 0 + _ ≤ _; exact Nat.le_of_eq rfl) (hb hby d30_15) (fun _ _ => ⟨rfl, e1, (by decide : 0 + 0 ≤ _), (by decide : 0 + 0 ≤ _)⟩)
  dsimp only [Pt.U, Pt.locs, Pt.cells, Pt.slots] at X2 l2 y2 z2 st2 hQ2
  subst l2 y2 z2
  obtain ⟨rfl, Nq2, e2⟩ := hQ2
  have N2 := Fr.app N0 Nq2
  obtain ⟨fs, hr, hrun, hended, hW, hsame⟩ := X2.leave (v := none) (fun _ => rfl)
  refine ⟨_, _, ?_, hrun, hended, _, _, rfl, ?_, ⟨_, rfl⟩, hW, hsame.mono (by decide) (by decide)⟩
  · show Steps p.tables e below (s₁.setTop (mkF m 0 #[va o0, vi 1, uu, uu] [])) _
    refine XS.iloadN X0.here hx rfl (hb hby d30_0) rfl ?_
    refine XS.ifNo X0.here hx rfl (hb hby d30_1) rfl ((if0 _ _).trans (feq (by decide : ¬ ((1 : Int32) = (0 : Int32)))).1) ?_
    refine XS.aloadN X0.here hx rfl (hb hby d30_4) rfl rfl ?_
    refine st1 _ ?_
    refine XS.dup X1.here hx rfl (hb hby d30_8) rfl rfl ?_
    refine XS.astoreN X1.here hx rfl (hb hby d30_9) rfl rfl (l' := #[va o0, vi 1, va o2, uu]) rfl ?_
    refine XS.ifnullNo X1.here hx rfl (hb hby d30_10) rfl ?_
    refine XS.aloadN X1.here hx rfl (hb hby d30_13) rfl rfl ?_
    show Steps p.tables e below (T1.setTop (mkF m 14 #[va o0, vi 1, va o2, uu] [(.ref o0)])) _
    refine XS.aloadN X1.here hx rfl (hb hby d30_14) rfl rfl ?_
    refine st2.trans ?_
    refine XS.ifYes X2.here hx rfl (pc0 := 18) (pc' := 39) rfl (hb hby d30_18) rfl ((if0 _ _).trans (teq (by decide : (0 : Int32) = (0 : Int32))).1) (by decide) (by decide) ?_
    exact X2.returnOut hx hrt (hb hby d30_39) hr
  · show Q30_0 Z w_EMPTY_MAP w_cache w_mir0 w_mir1 z_COMPACT_STRINGS o0 o1 o2 o3 o4 o5 kk_o4 p0 p1 h0 n0 none T2.heap _
    exact (⟨rfl, N2, e2⟩)
theorem pd_24 : parseMethodDescriptor "(Z)V" = some ⟨[.boolean], none⟩ := by decide +kernel
theorem d24_298 : decode jdk_69_method_16_code 298 = .ok (.aconst_null, 1) := by decide +kernel
theorem d24_299 : decode jdk_69_method_16_code 299 = .ok (.areturn, 1) := by decide +kernel
def Q24_0 (Z : State) (w_EMPTY_MAP w_cache w_mir0 w_mir1 : Addr) (z_COMPACT_STRINGS : Int32) (o0 : Addr) (o1 : Addr) (o2 : Addr) (o3 : Addr) (kk_o2 : ClassId) (p0 : Int32) (p1 : Int32) (h0 : Heap) (n0 : Nat) (v : Option Value) (h : Heap) (L : List Loc) : Prop := ∃ (b5_2 : Addr), ∃ (b1_7 : Addr), v = (some .null) ∧ Fr n0 L ∧ Keep h0 h [o0] ∧ Exa Z h o0 sC1 ∧ Fld Z h o0 sC0 "loadFactor" "F" (.float (1061158912 : UInt32)) ∧ Fld Z h o0 sC0 "modCount" "I" (.int 1) ∧ Fld Z h o0 sC0 "size" "I" (.int 1) ∧ Fld Z h o0 sC0 "table" "[Ljava/util/HashMap$Node;" (.ref b5_2) ∧ Fld Z h o0 sC0 "threshold" "I" (.int 12) ∧ Fld Z h o0 sC1 "accessOrder" "Z" (.int 0) ∧ Fld Z h o0 sC1 "head" "Ljava/util/LinkedHashMap$Entry;" (.ref b1_7) ∧ Fld Z h o0 sC1 "putMode" "I" (.int 0) ∧ Fld Z h o0 sC1 "tail" "Ljava/util/LinkedHashMap$Entry;" (.ref b1_7) ∧ Exa Z h b1_7 sC4 ∧ Fld Z h b1_7 sC3 "hash" "I" (.int p0) ∧ Fld Z h b1_7 sC3 "key" "Ljava/lang/Object;" (.ref o1) ∧ Fld Z h b1_7 sC3 "next" "Ljava/util/HashMap$Node;" .null ∧ Fld Z h b1_7 sC3 "value" "Ljava/lang/Object;" (.ref o3) ∧ h0.size ≤ b5_2 ∧ h0.size ≤ b1_7 ∧ b5_2 ≠ b1_7
theorem rm24_0 (l : Launch) (Z : State) (a0 : Array Value) (hw : HW Z a0) (ws : List Jvm.Cond) (w_EMPTY_MAP w_cache w_mir0 w_mir1 : Addr) (z_COMPACT_STRINGS : Int32) (o0 : Addr) (o1 : Addr) (o2 : Addr) (o3 : Addr) (kk_o2 : ClassId) (p0 : Int32) (p1 : Int32) (h0 : Heap) (n0 : Nat) (O0 : Old Z n0 h0) (S : SF Z w_EMPTY_MAP w_cache w_mir0 w_mir1 z_COMPACT_STRINGS) (E_o0 : Exa Z h0 o0 sC1) (F_loadFactor_o0 : Fld Z h0 o0 sC0 "loadFactor" "F" (.float (1061158912 : UInt32))) (F_modCount_o0 : Fld Z h0 o0 sC0 "modCount" "I" (.int 0)) (F_size_o0 : Fld Z h0 o0 sC0 "size" "I" (.int 0)) (F_table_o0 : Fld Z h0 o0 sC0 "table" "[Ljava/util/HashMap$Node;" .null) (F_threshold_o0 : Fld Z h0 o0 sC0 "threshold" "I" (.int 0)) (F_accessOrder_o0 : Fld Z h0 o0 sC1 "accessOrder" "Z" (.int 0)) (F_head_o0 : Fld Z h0 o0 sC1 "head" "Ljava/util/LinkedHashMap$Entry;" .null) (F_putMode_o0 : Fld Z h0 o0 sC1 "putMode" "I" (.int 0)) (F_tail_o0 : Fld Z h0 o0 sC1 "tail" "Ljava/util/LinkedHashMap$Entry;" .null) (E_o1 : Exa Z h0 o1 sC2) (V_o2 : Arv Z h0 o2 kk_o2 .byte (1 : Int32) [(.int p1)] (.int 0)) (ne_o0_o2 : o0 ≠ o2) (g_o0 : n0 ≤ o0) :
    Pay l Z My24 ws jdk_69_method_16_code 13 (some (.object sC5)) #[(.ref o0), (.int p0), (.ref o1), (.ref o3), (.int 0), (.int 1)] h0 ({ frames := 4, cells := 2, slots := 22, locals := 64 } : Room) (Q24_0 Z w_EMPTY_MAP w_cache w_mir0 w_mir1 z_COMPACT_STRINGS o0 o1 o2 o3 kk_o2 p0 p1 h0 n0) := by
  refine own_body (plainFor_of_name pn_9) (L0 := #[va o0, vi p0, va o1, va o3, vi 0, vi 1, uu, uu, uu, uu, uu, uu, uu]) (fun _ => by first | rfl | (simp [entryFrame, mkF, argsToLocals, Value.category]; done)) ?_
  intro p e s m below meth c s₁ hrt hlk hx hby hml hZ hown0 hnm X0 e0
  have hown : s.vm.findClass sC0 = some m.cls := hown0
  have N0 := Fr.nil n0
  have K0 : Keep h0 h0 [o0] := Keep.refl _ _
  obtain ⟨T1, X1, e1, st1⟩ := getF X0 hx hZ hown (host := "") (Or.inl (ww hw 154 rfl)) Via.refl e0 F_table_o0 (g := (mkF m 1 #[va o0, vi p0, va o1, va o3, vi 0, vi 1, uu, uu, uu, uu, uu, uu, uu] [(.ref o0)])) rfl rfl (hb hby d24_1)
  obtain ⟨cq2, kq2, q2a, q2b, q2c⟩ := isOf hZ e1 E_o0
  obtain ⟨_, _, ⟨T2, L2, k2, n2⟩, -, X2, ⟨Lc2, hQ2, l2, y2, z2⟩, st2⟩ := X1.virtualBack hx (y := My25) (z := My25) hown (mvT hZ (ww hw 156 rfl)) (mvT hZ (ww hw 157 rfl)) (notFace_of_selects (args := #[]) (mvT hZ (ww hw 159 rfl))) (mvT hZ (ww hw 159 rfl)) (mvT hZ (ww hw 158 rfl)) (by decide) (backOf (W := 0) (rm25_0 l Z a0 hw [] w_EMPTY_MAP w_cache w_mir0 w_mir1 z_COMPACT_STRINGS o0 h0 n0 O0 S E_o0 F_loadFactor_o0 F_modCount_o0 F_size_o0 F_table_o0 F_threshold_o0 F_accessOrder_o0 F_head_o0 F_putMode_o0 F_tail_o0 g_o0) hZ (ww hw 160 rfl) (ww hw 85 rfl) (by decide) (by decide)) q2a q2c (g := (mkF m 20 #[va o0, vi p0, va o1, va o3, vi 0, vi 1, .val .null, uu, uu, uu, uu, uu, uu] [(.ref o0)])) rfl (by rw [hml]; rfl) (Steps.refl _) (argsL := []) (rest := []) (lenOf pd_19 rfl) rfl (by show 2 * 0 + _ ≤ _; exact Nat.le_of_eq rfl) (hb hby d24_20) (fun _ _ => ⟨rfl, e1, (by decide : 0 + 1 ≤ _), (by decide : 0 + 16 ≤ _)⟩)
  dsimp only [Pt.U, Pt.locs, Pt.cells, Pt.slots] at X2 l2 y2 z2 st2 hQ2
  subst l2 y2 z2
  obtain ⟨b5_2, k5_2, rfl, Nq2, Kc2, P0_2, P1_2, P2_2, P3_2, P4_2, P5_2, P6_2, P7_2, P8_2, P9_2, P10_2, P11_2⟩ := hQ2
  have N2 := Fr.app N0 Nq2
  have ne_o0_b5_2 : o0 ≠ b5_2 := Nat.ne_of_lt (Nat.lt_of_lt_of_le E_o0.lt P11_2)
  have ne_o1_b5_2 : o1 ≠ b5_2 := Nat.ne_of_lt (Nat.lt_of_lt_of_le E_o1.lt P11_2)
  have ne_o2_b5_2 : o2 ≠ b5_2 := Nat.ne_of_lt (Nat.lt_of_lt_of_le V_o2.lt P11_2)
  have g_b5_2 : n0 ≤ b5_2 := Nat.le_trans (own_old O0) P11_2
  have sz_b5_2 : h0.size ≤ b5_2 := Nat.le_trans K0.1 P11_2
  have O2 := O0.keep Kc2 (allS g_o0 all0)
  have K2 : Keep h0 T2.heap [o0] := K0.trans Kc2 (allS (Or.inl (List.mem_of_getElem? (i := 0) rfl)) all0)
  obtain ⟨⟨cl3, Ar3, qk3, Sz3, Ng3, Hh3, Gg3⟩, Ov3⟩ := id P10_2
  have hin4 : ¬ (((15 : Int32) &&& p0) < 0 ∨ cl3.slots.size ≤ (((15 : Int32) &&& p0)).toNatClampNeg) := inb_of Sz3 (own_and15 _)
  have fc5 := (E_o1.keep Kc2)
  have fc6 := (V_o2.keep Kc2 (ninS (Ne.symm ne_o0_o2) nin0))
  obtain ⟨cq7, kq7, q7a, q7b, q7c⟩ := isOf hZ rfl P0_2
  obtain ⟨_, _, ⟨T7, L7, k7, n7⟩, -, X7, ⟨Lc7, hQ7, l7, y7, z7⟩, st7⟩ := X2.virtualBack hx (y := (⟨sC0, "newNode", "(ILjava/lang/Object;Ljava/lang/Object;Ljava/util/HashMap$Node;)Ljava/util/HashMap$Node;"⟩ : MethodName)) (z := My26) hown (mvT hZ (ww hw 165 rfl)) (mvT hZ (ww hw 166 rfl)) (own_nf (args := #[]) (z := My17) rfl (mvT hZ (ww hw 105 rfl))) (mvT hZ (ww hw 168 rfl)) (mvT hZ (ww hw 169 rfl)) (by decide) (backOf (W := 2) (rm26_0 l Z a0 hw [] w_EMPTY_MAP w_cache w_mir0 w_mir1 z_COMPACT_STRINGS o0 b5_2 o1 o2 o3 k5_2 kk_o2 p0 p1 T2.heap n0 O2 S P0_2 P1_2 P2_2 P3_2 P4_2 P5_2 P6_2 P7_2 P8_2 P9_2 P10_2 fc5 fc6 g_o0) hZ (ww hw 170 rfl) (ww hw 77 rfl) (by decide) (by decide)) q7a q7c (g := (mkF m 56 #[va o0, vi p0, va o1, va o3, vi 0, vi 1, va b5_2, .val .null, vi 16, vi ((15 : Int32) &&& p0), uu, uu, uu] [.null, (.ref o3), (.ref o1), (.int p0), (.ref o0), (.int ((15 : Int32) &&& p0)), (.ref b5_2)])) rfl (by rw [hml]; rfl) (Steps.refl _) (argsL := [(.int p0), (.ref o1), (.ref o3), .null]) (rest := [(.int ((15 : Int32) &&& p0)), (.ref b5_2)]) (lenOf pd_22 rfl) rfl (by show 2 * 0 + _ ≤ _; exact Nat.le_of_eq rfl) (hb hby d24_56) (fun _ _ => ⟨rfl, rfl, (by decide : 1 + 1 ≤ _), (by decide : 16 + 6 ≤ _)⟩)
  dsimp only [Pt.U, Pt.locs, Pt.cells, Pt.slots] at X7 l7 y7 z7 st7 hQ7
  subst l7 y7 z7
  obtain ⟨b1_7, rfl, Nq7, Kc7, P0_7, P1_7, P2_7, P3_7, P4_7, P5_7, P6_7, P7_7, P8_7, P9_7, P10_7, P11_7, P12_7, P13_7, P14_7, P15_7⟩ := hQ7
  have N7 := Fr.app N2 Nq7
  have ne_o0_b1_7 : o0 ≠ b1_7 := Nat.ne_of_lt (Nat.lt_of_lt_of_le P0_2.lt P15_7)
  have ne_o1_b1_7 : o1 ≠ b1_7 := Nat.ne_of_lt (Nat.lt_of_lt_of_le fc5.lt P15_7)
  have ne_o2_b1_7 : o2 ≠ b1_7 := Nat.ne_of_lt (Nat.lt_of_lt_of_le fc6.lt P15_7)
  have ne_b5_2_b1_7 : b5_2 ≠ b1_7 := Nat.ne_of_lt (Nat.lt_of_lt_of_le P10_2.lt P15_7)
  have g_b1_7 : n0 ≤ b1_7 := Nat.le_trans (own_old O2) P15_7
  have sz_b1_7 : h0.size ≤ b1_7 := Nat.le_trans K2.1 P15_7
  have O7 := O2.keep Kc7 (allS g_o0 all0)
  have K7 : Keep h0 T7.heap [o0] := K2.trans Kc7 (allS (Or.inl (List.mem_of_getElem? (i := 0) rfl)) all0)
  have fc8 := (P10_2.keep Kc7 (ninS (Ne.symm ne_o0_b5_2) nin0))
  obtain ⟨⟨cl9, Ar9, qk9, Sz9, Ng9, Hh9, Gg9⟩, Ov9⟩ := id fc8
  have hin10 : ¬ (((15 : Int32) &&& p0) < 0 ∨ cl9.slots.size ≤ (((15 : Int32) &&& p0)).toNatClampNeg) := inb_of Sz9 (own_and15 _)
  obtain ⟨T11, h11, X11, e11, W11, st11⟩ := stR X7 hx hZ rfl Ar9 (j := ((15 : Int32) &&& p0)) hin10 rfl (Sto.ofV Ar9 qk9 Ov9 (Ins.of_exa P10_7 (ww hw 181 rfl))) (g := (mkF m 59 #[va o0, vi p0, va o1, va o3, vi 0, vi 1, va b5_2, .val .null, vi 16, vi ((15 : Int32) &&& p0), uu, uu, uu] [(.ref b1_7), (.int ((15 : Int32) &&& p0)), (.ref b5_2)])) rfl rfl (hb hby d24_59)
  have O11 := O7.wr W11 g_b5_2
  have K11 : Keep h0 h11 [o0] := K7.wr W11 (Or.inr sz_b5_2)
  have N11 := Fr.snoc X11 N7 g_b5_2
  have fc12 := (P2_7.other W11 (Or.inl ne_o0_b5_2))
  obtain ⟨T13, X13, e13, st13⟩ := getF X11 hx hZ hown (host := "") (Or.inl (ww hw 202 rfl)) Via.refl e11 fc12 (g := (mkF m 261 #[va o0, vi p0, va o1, va o3, vi 0, vi 1, va b5_2, .val .null, vi 16, vi ((15 : Int32) &&& p0), uu, uu, uu] [(.ref o0), (.ref o0)])) rfl rfl (hb hby d24_261)
  have fc14 := (P0_7.wr W11)
  obtain ⟨T15, h15, X15, e15, W15, st15⟩ := putF X13 hx hZ hown (host := "") (Or.inl (ww hw 202 rfl)) Via.refl e13 fc12 fc14 (Or.inl (ww hw 203 rfl)) (ww hw 76 rfl) (ty := .int) (by decide) rfl rfl (g := (mkF m 266 #[va o0, vi p0, va o1, va o3, vi 0, vi 1, va b5_2, .val .null, vi 16, vi ((15 : Int32) &&& p0), uu, uu, uu] [(.int 1), (.ref o0)])) rfl rfl (hb hby d24_266)
  have Fw15 := fc12.same W15
  have O15 := O11.wr W15 g_o0
  have K15 : Keep h0 h15 [o0] := K11.wr W15 (Or.inl (List.mem_of_getElem? (i := 0) rfl))
  have N15 := Fr.snoc X15 N11 g_o0
  have fc16 := ((P3_7.other W11 (Or.inl ne_o0_b5_2)).other W15 (Or.inr (slot_ne (Or.inl (ww hw 205 rfl)) (Or.inl (ww hw 203 rfl)) (by decide) (t := .int) (t' := .int) (by decide) (by decide))))
  obtain ⟨T17, X17, e17, st17⟩ := getF X15 hx hZ hown (host := "") (Or.inl (ww hw 204 rfl)) Via.refl e15 fc16 (g := (mkF m 271 #[va o0, vi p0, va o1, va o3, vi 0, vi 1, va b5_2, .val .null, vi 16, vi ((15 : Int32) &&& p0), uu, uu, uu] [(.ref o0), (.ref o0)])) rfl rfl (hb hby d24_271)
  have fc18 := (fc14.wr W15)
  obtain ⟨T19, h19, X19, e19, W19, st19⟩ := putF X17 hx hZ hown (host := "") (Or.inl (ww hw 204 rfl)) Via.refl e17 fc16 fc18 (Or.inl (ww hw 205 rfl)) (ww hw 76 rfl) (ty := .int) (by decide) rfl rfl (g := (mkF m 277 #[va o0, vi p0, va o1, va o3, vi 0, vi 1, va b5_2, .val .null, vi 16, vi ((15 : Int32) &&& p0), uu, uu, uu] [(.int 1), (.ref o0), (.int 1)])) rfl rfl (hb hby d24_277)
  have Fw19 := fc16.same W19
  have O19 := O15.wr W19 g_o0
  have K19 : Keep h0 h19 [o0] := K15.wr W19 (Or.inl (List.mem_of_getElem? (i := 0) rfl))
  have N19 := Fr.snoc X19 N15 g_o0
  have fc20 := (((P5_7.other W11 (Or.inl ne_o0_b5_2)).other W15 (Or.inr (slot_ne (Or.inl (ww hw 162 rfl)) (Or.inl (ww hw 203 rfl)) (by decide) (t := .int) (t' := .int) (by decide) (by decide)))).other W19 (Or.inr (slot_ne (Or.inl (ww hw 162 rfl)) (Or.inl (ww hw 205 rfl)) (by decide) (t := .int) (t' := .int) (by decide) (by decide))))
  obtain ⟨T21, X21, e21, st21⟩ := getF X19 hx hZ hown (host := "") (Or.inl (ww hw 161 rfl)) Via.refl e19 fc20 (g := (mkF m 281 #[va o0, vi p0, va o1, va o3, vi 0, vi 1, va b5_2, .val .null, vi 16, vi ((15 : Int32) &&& p0), uu, uu, uu] [(.ref o0), (.int 1)])) rfl rfl (hb hby d24_281)
  have fc22 := (fc18.wr W19)
  have fc23 := (((P7_7.other W11 (Or.inl ne_o0_b5_2)).other W15 (Or.inr (slot_ne (Or.inl (ww hw 201 rfl)) (Or.inl (ww hw 203 rfl)) (by decide) (t := (.object sC4)) (t' := .int) (by decide) (by decide)))).other W19 (Or.inr (slot_ne (Or.inl (ww hw 201 rfl)) (Or.inl (ww hw 205 rfl)) (by decide) (t := (.object sC4)) (t' := .int) (by decide) (by decide))))
  obtain ⟨cq24, kq24, q24a, q24b, q24c⟩ := isOf hZ e21 fc22
  obtain ⟨_, _, ⟨T24, L24, k24, n24⟩, -, X24, ⟨Lc24, hQ24, l24, y24, z24⟩, st24⟩ := X21.virtualBack hx (y := (⟨sC0, "afterNodeInsertion", "(Z)V"⟩ : MethodName)) (z := My30) hown (mvT hZ (ww hw 206 rfl)) (mvT hZ (ww hw 207 rfl)) (own_nf (args := #[]) (z := My17) rfl (mvT hZ (ww hw 105 rfl))) (mvT hZ (ww hw 209 rfl)) (mvT hZ (ww hw 210 rfl)) (by decide) (backOf (W := 0) (rm30_0 l Z a0 hw [] w_EMPTY_MAP w_cache w_mir0 w_mir1 z_COMPACT_STRINGS o0 b5_2 b1_7 o1 o2 o3 kk_o2 p0 p1 h19 n0 O19 S fc22 fc23) hZ (ww hw 211 rfl) (ww hw 77 rfl) (by decide) (by decide)) q24a q24c (g := (mkF m 295 #[va o0, vi p0, va o1, va o3, vi 0, vi 1, va b5_2, .val .null, vi 16, vi ((15 : Int32) &&& p0), uu, uu, uu] [(.int 1), (.ref o0)])) rfl (by rw [hml]; rfl) (Steps.refl _) (argsL := [(.int 1)]) (rest := []) (lenOf pd_24 rfl) rfl (by show 2 * 0 + _ ≤ _; exact Nat.le_of_eq rfl) (hb hby d24_295) (fun _ _ => ⟨rfl, e21, (by decide : 2 + 0 ≤ _), (by decide : 22 + 0 ≤ _)⟩)
  dsimp only [Pt.U, Pt.locs, Pt.cells, Pt.slots] at X24 l24 y24 z24 st24 hQ24
  subst l24 y24 z24
  obtain ⟨rfl, Nq24, e24⟩ := hQ24
  have N24 := Fr.app N19 Nq24
  obtain ⟨fs, hr, hrun, hended, hW, hsame⟩ := X24.leave (v := (some .null)) (fun h => by rw [hrt] at h; cases h)
  have fc25 := (((P1_7.other W11 (Or.inl ne_o0_b5_2)).other W15 (Or.inr (slot_ne (Or.inr (ww hw 96 rfl)) (Or.inl (ww hw 203 rfl)) (by decide) (t := .float) (t' := .int) (by decide) (by decide)))).other W19 (Or.inr (slot_ne (Or.inr (ww hw 96 rfl)) (Or.inl (ww hw 205 rfl)) (by decide) (t := .float) (t' := .int) (by decide) (by decide))))
  have fc26 := (Fw15.other W19 (Or.inr (slot_ne (Or.inl (ww hw 203 rfl)) (Or.inl (ww hw 205 rfl)) (by decide) (t := .int) (t' := .int) (by decide) (by decide))))
  have fc27 := (((P4_7.other W11 (Or.inl ne_o0_b5_2)).other W15 (Or.inr (slot_ne (Or.inl (ww hw 155 rfl)) (Or.inl (ww hw 203 rfl)) (by decide) (t := (.array (.object sC3))) (t' := .int) (by decide) (by decide)))).other W19 (Or.inr (slot_ne (Or.inl (ww hw 155 rfl)) (Or.inl (ww hw 205 rfl)) (by decide) (t := (.array (.object sC3))) (t' := .int) (by decide) (by decide))))
  have fc28 := (((P6_7.other W11 (Or.inl ne_o0_b5_2)).other W15 (Or.inr (slot_ne (Or.inr (ww hw 100 rfl)) (Or.inl (ww hw 203 rfl)) (by decide) (t := .boolean) (t' := .int) (by decide) (by decide)))).other W19 (Or.inr (slot_ne (Or.inr (ww hw 100 rfl)) (Or.inl (ww hw 205 rfl)) (by decide) (t := .boolean) (t' := .int) (by decide) (by decide))))
  have fc29 := (((P8_7.other W11 (Or.inl ne_o0_b5_2)).other W15 (Or.inr (slot_ne (Or.inl (ww hw 98 rfl)) (Or.inl (ww hw 203 rfl)) (by decide) (t := .int) (t' := .int) (by decide) (by decide)))).other W19 (Or.inr (slot_ne (Or.inl (ww hw 98 rfl)) (Or.inl (ww hw 205 rfl)) (by decide) (t := .int) (t' := .int) (by decide) (by decide))))
  have fc30 := (((P9_7.other W11 (Or.inl ne_o0_b5_2)).other W15 (Or.inr (slot_ne (Or.inl (ww hw 199 rfl)) (Or.inl (ww hw 203 rfl)) (by decide) (t := (.object sC4)) (t' := .int) (by decide) (by decide)))).other W19 (Or.inr (slot_ne (Or.inl (ww hw 199 rfl)) (Or.inl (ww hw 205 rfl)) (by decide) (t := (.object sC4)) (t' := .int) (by decide) (by decide))))
  have fc31 := (((P10_7.wr W11).wr W15).wr W19)
  have fc32 := (((P11_7.other W11 (Or.inl (Ne.symm ne_b5_2_b1_7))).other W15 (Or.inl (Ne.symm ne_o0_b1_7))).other W19 (Or.inl (Ne.symm ne_o0_b1_7)))
  have fc33 := (((P12_7.other W11 (Or.inl (Ne.symm ne_b5_2_b1_7))).other W15 (Or.inl (Ne.symm ne_o0_b1_7))).other W19 (Or.inl (Ne.symm ne_o0_b1_7)))
  have fc34 := (((P13_7.other W11 (Or.inl (Ne.symm ne_b5_2_b1_7))).other W15 (Or.inl (Ne.symm ne_o0_b1_7))).other W19 (Or.inl (Ne.symm ne_o0_b1_7)))
  have fc35 := (((P14_7.other W11 (Or.inl (Ne.symm ne_b5_2_b1_7))).other W15 (Or.inl (Ne.symm ne_o0_b1_7))).other W19 (Or.inl (Ne.symm ne_o0_b1_7)))
  refine ⟨_, _, ?_, hrun, hended, _, _, rfl, ?_, ⟨_, rfl⟩, hW, hsame.mono (by decide) (by decide)⟩
  · show Steps p.tables e below (s₁.setTop (mkF m 0 #[va o0, vi p0, va o1, va o3, vi 0, vi 1, uu, uu, uu, uu, uu, uu, uu] [])) _
    refine XS.aloadN X0.here hx rfl (hb hby d24_0) rfl rfl ?_
    refine st1 _ ?_
    refine XS.dup X1.here hx rfl (hb hby d24_4) rfl rfl ?_
    refine XS.astore X1.here hx rfl (hb hby d24_5) rfl rfl (l' := #[va o0, vi p0, va o1, va o3, vi 0, vi 1, .val .null, uu, uu, uu, uu, uu, uu]) rfl ?_
    refine XS.ifnullYes X1.here hx rfl (pc0 := 7) (pc' := 19) rfl (hb hby d24_7) rfl (by decide) (by decide) ?_
    refine XS.aloadN X1.here hx rfl (hb hby d24_19) rfl rfl ?_
    refine st2.trans ?_
    refine XS.dup X2.here hx rfl (hb hby d24_23) rfl rfl ?_
    show Steps p.tables e below (T2.setTop (mkF m 24 #[va o0, vi p0, va o1, va o3, vi 0, vi 1, .val .null, uu, uu, uu, uu, uu, uu] [(.ref b5_2), (.ref b5_2)])) _
    refine XS.astore X2.here hx rfl (hb hby d24_24) rfl rfl (l' := #[va o0, vi p0, va o1, va o3, vi 0, vi 1, va b5_2, uu, uu, uu, uu, uu, uu]) rfl ?_
    refine X2.arraylength hx Ar3.1 (State.isArrayOf_alike hZ.alike Ar3.2.1) (g := (mkF m 26 #[va o0, vi p0, va o1, va o3, vi 0, vi 1, va b5_2, uu, uu, uu, uu, uu, uu] [(.ref b5_2)])) rfl rfl (hb hby d24_26) _ ?_
    rw [len_of Sz3 Ng3]
    refine XS.istore X2.here hx rfl (hb hby d24_27) rfl (l' := #[va o0, vi p0, va o1, va o3, vi 0, vi 1, va b5_2, uu, vi 16, uu, uu, uu, uu]) rfl ?_
    refine XS.aload X2.here hx rfl (hb hby d24_29) rfl rfl ?_
    refine XS.iload X2.here hx rfl (hb hby d24_31) rfl ?_
    refine XS.iconst X2.here hx rfl (hb hby d24_33) ?_
    refine XS.isub X2.here hx rfl (hb hby d24_34) rfl ?_
    show Steps p.tables e below (T2.setTop (mkF m 35 #[va o0, vi p0, va o1, va o3, vi 0, vi 1, va b5_2, uu, vi 16, uu, uu, uu, uu] [(.int ((16 : Int32) - (1 : Int32))), (.ref b5_2)])) _
    rw [show (((16 : Int32) - (1 : Int32)) : Int32) = (15 : Int32) from by decide]
    refine XS.iloadN X2.here hx rfl (hb hby d24_35) rfl ?_
    refine XS.iand X2.here hx rfl (hb hby d24_36) rfl ?_
    refine XS.dup X2.here hx rfl (hb hby d24_37) rfl rfl ?_
    refine XS.istore X2.here hx rfl (hb hby d24_38) rfl (l' := #[va o0, vi p0, va o1, va o3, vi 0, vi 1, va b5_2, uu, vi 16, vi ((15 : Int32) &&& p0), uu, uu, uu]) rfl ?_
    refine X2.aaload hx (j := ((15 : Int32) &&& p0)) (v := .null) Ar3.1 (State.isArrayOf_alike hZ.alike Ar3.2.1) rfl Ar3.2.2 hin4 (Has.at Hh3 hin4 rfl) (g := (mkF m 40 #[va o0, vi p0, va o1, va o3, vi 0, vi 1, va b5_2, uu, vi 16, vi ((15 : Int32) &&& p0), uu, uu, uu] [(.int ((15 : Int32) &&& p0)), (.ref b5_2)])) rfl rfl (hb hby d24_40) _ ?_
    refine XS.dup X2.here hx rfl (hb hby d24_41) rfl rfl ?_
    refine XS.astore X2.here hx rfl (hb hby d24_42) rfl rfl (l' := #[va o0, vi p0, va o1, va o3, vi 0, vi 1, va b5_2, .val .null, vi 16, vi ((15 : Int32) &&& p0), uu, uu, uu]) rfl ?_
    show Steps p.tables e below (T2.setTop (mkF m 44 #[va o0, vi p0, va o1, va o3, vi 0, vi 1, va b5_2, .val .null, vi 16, vi ((15 : Int32) &&& p0), uu, uu, uu] [.null])) _
    refine XS.ifnonnullNo X2.here hx rfl (hb hby d24_44) rfl ?_
    refine XS.aload X2.here hx rfl (hb hby d24_47) rfl rfl ?_
    refine XS.iload X2.here hx rfl (hb hby d24_49) rfl ?_
    refine XS.aloadN X2.here hx rfl (hb hby d24_51) rfl rfl ?_
    refine XS.iloadN X2.here hx rfl (hb hby d24_52) rfl ?_
    refine XS.aloadN X2.here hx rfl (hb hby d24_53) rfl rfl ?_
    refine XS.aloadN X2.here hx rfl (hb hby d24_54) rfl rfl ?_
    refine XS.aconstNull X2.here hx rfl (hb hby d24_55) ?_
    show Steps p.tables e below (T2.setTop (mkF m 56 #[va o0, vi p0, va o1, va o3, vi 0, vi 1, va b5_2, .val .null, vi 16, vi ((15 : Int32) &&& p0), uu, uu, uu] [.null, (.ref o3), (.ref o1), (.int p0), (.ref o0), (.int ((15 : Int32) &&& p0)), (.ref b5_2)])) _
    refine st7.trans ?_
    refine st11 _ ?_
    refine XS.goto X11.here hx rfl (pc0 := 60) (pc' := 259) rfl (hb hby d24_60) (by decide) (by decide) ?_
    refine XS.aloadN X11.here hx rfl (hb hby d24_259) rfl rfl ?_
    refine XS.dup X11.here hx rfl (hb hby d24_260) rfl rfl ?_
    refine st13 _ ?_
    refine XS.iconst X13.here hx rfl (hb hby d24_264) ?_
    refine XS.iadd X13.here hx rfl (hb hby d24_265) rfl ?_
    show Steps p.tables e below (T13.setTop (mkF m 266 #[va o0, vi p0, va o1, va o3, vi 0, vi 1, va b5_2, .val .null, vi 16, vi ((15 : Int32) &&& p0), uu, uu, uu] [(.int ((0 : Int32) + (1 : Int32))), (.ref o0)])) _
    rw [show (((0 : Int32) + (1 : Int32)) : Int32) = (1 : Int32) from by decide]
    refine st15 _ ?_
    refine XS.aloadN X15.here hx rfl (hb hby d24_269) rfl rfl ?_
    refine XS.dup X15.here hx rfl (hb hby d24_270) rfl rfl ?_
    refine st17 _ ?_
    refine XS.iconst X17.here hx rfl (hb hby d24_274) ?_
    refine XS.iadd X17.here hx rfl (hb hby d24_275) rfl ?_
    show Steps p.tables e below (T17.setTop (mkF m 276 #[va o0, vi p0, va o1, va o3, vi 0, vi 1, va b5_2, .val .null, vi 16, vi ((15 : Int32) &&& p0), uu, uu, uu] [(.int ((0 : Int32) + (1 : Int32))), (.ref o0)])) _
    rw [show (((0 : Int32) + (1 : Int32)) : Int32) = (1 : Int32) from by decide]
    refine XS.dupX1 X17.here hx rfl (hb hby d24_276) rfl rfl rfl ?_
    refine st19 _ ?_
    refine XS.aloadN X19.here hx rfl (hb hby d24_280) rfl rfl ?_
    refine st21 _ ?_
    refine XS.icmpYes X21.here hx rfl (pc0 := 284) (pc' := 292) rfl (hb hby d24_284) rfl (flt (by decide : ¬ ((12 : Int32) < (1 : Int32)))).2.2.2 (by decide) (by decide) ?_
    refine XS.aloadN X21.here hx rfl (hb hby d24_292) rfl rfl ?_
    refine XS.iload X21.here hx rfl (hb hby d24_293) rfl ?_
    show Steps p.tables e below (T21.setTop (mkF m 295 #[va o0, vi p0, va o1, va o3, vi 0, vi 1, va b5_2, .val .null, vi 16, vi ((15 : Int32) &&& p0), uu, uu, uu] [(.int 1), (.ref o0)])) _
    refine st24.trans ?_
    refine XS.aconstNull X24.here hx rfl (hb hby d24_298) ?_
    exact retOut X24 hx (t := (.object sC5)) (i := .areturn) hrt rfl (Or.inr (Or.inr (Or.inr (Or.inr ⟨rfl, rfl, rfl⟩)))) (hb hby d24_299) hr
  · show Q24_0 Z w_EMPTY_MAP w_cache w_mir0 w_mir1 z_COMPACT_STRINGS o0 o1 o2 o3 kk_o2 p0 p1 h0 n0 (some .null) T24.heap _
    rw [e24]; exact ⟨b5_2, b1_7, rfl, N24, K19, fc22, fc25, fc26, Fw19, fc27, fc20, fc28, fc23, fc29, fc30, fc31, fc32, fc33, fc34, fc35, sz_b5_2, sz_b1_7, ne_b5_2_b1_7⟩
theorem pd_25 : parseMethodDescriptor "(ILjava/lang/Object;Ljava/lang/Object;ZZ)Ljava/lang/Object;" = some ⟨[.int, (.object sC5), (.object sC5), .boolean, .boolean], some (.object sC5)⟩ := by decide +kernel
theorem d19_12 : decode jdk_69_method_15_code 12 = .ok (.areturn, 1) := by decide +kernel
def Q19_0 (Z : State) (w_EMPTY_MAP w_cache w_mir0 w_mir1 : Addr) (z_COMPACT_STRINGS : Int32) (o0 : Addr) (o1 : Addr) (o2 : Addr) (o3 : Addr) (kk_o2 : ClassId) (p0 : Int32) (h0 : Heap) (n0 : Nat) (v : Option Value) (h : Heap) (L : List Loc) : Prop := ∃ (b5_2_13 : Addr), ∃ (b1_7_13 : Addr), v = (some .null) ∧ Fr n0 L ∧ Keep h0 h [o1, o0] ∧ Exa Z h o0 sC1 ∧ Fld Z h o0 sC0 "loadFactor" "F" (.float (1061158912 : UInt32)) ∧ Fld Z h o0 sC0 "modCount" "I" (.int 1) ∧ Fld Z h o0 sC0 "size" "I" (.int 1) ∧ Fld Z h o0 sC0 "table" "[Ljava/util/HashMap$Node;" (.ref b5_2_13) ∧ Fld Z h o0 sC0 "threshold" "I" (.int 12) ∧ Fld Z h o0 sC1 "accessOrder" "Z" (.int 0) ∧ Fld Z h o0 sC1 "head" "Ljava/util/LinkedHashMap$Entry;" (.ref b1_7_13) ∧ Fld Z h o0 sC1 "putMode" "I" (.int 0) ∧ Fld Z h o0 sC1 "tail" "Ljava/util/LinkedHashMap$Entry;" (.ref b1_7_13) ∧ Exa Z h o1 sC2 ∧ Fld Z h o1 sC2 "coder" "B" (.int 0) ∧ Fld Z h o1 sC2 "hash" "I" (.int 0) ∧ Fld Z h o1 sC2 "hashIsZero" "Z" (.int 1) ∧ Fld Z h o1 sC2 "value" "[B" (.ref o2) ∧ Exa Z h b1_7_13 sC4 ∧ Fld Z h b1_7_13 sC3 "hash" "I" (.int ((p0 &&& (255 : Int32)) ^^^ (((p0 &&& (255 : Int32)).toUInt32 >>> ((16 : Int32) &&& 31).toUInt32).toInt32))) ∧ Fld Z h b1_7_13 sC3 "key" "Ljava/lang/Object;" (.ref o1) ∧ Fld Z h b1_7_13 sC3 "next" "Ljava/util/HashMap$Node;" .null ∧ Fld Z h b1_7_13 sC3 "value" "Ljava/lang/Object;" (.ref o3) ∧ h0.size ≤ b5_2_13 ∧ h0.size ≤ b1_7_13 ∧ b5_2_13 ≠ b1_7_13
theorem rm19_0 (l : Launch) (Z : State) (a0 : Array Value) (hw : HW Z a0) (ws : List Jvm.Cond) (w_EMPTY_MAP w_cache w_mir0 w_mir1 : Addr) (z_COMPACT_STRINGS : Int32) (o0 : Addr) (o1 : Addr) (o2 : Addr) (o3 : Addr) (kk_o2 : ClassId) (p0 : Int32) (h0 : Heap) (n0 : Nat) (O0 : Old Z n0 h0) (S : SF Z w_EMPTY_MAP w_cache w_mir0 w_mir1 z_COMPACT_STRINGS) (E_o0 : Exa Z h0 o0 sC1) (F_loadFactor_o0 : Fld Z h0 o0 sC0 "loadFactor" "F" (.float (1061158912 : UInt32))) (F_modCount_o0 : Fld Z h0 o0 sC0 "modCount" "I" (.int 0)) (F_size_o0 : Fld Z h0 o0 sC0 "size" "I" (.int 0)) (F_table_o0 : Fld Z h0 o0 sC0 "table" "[Ljava/util/HashMap$Node;" .null) (F_threshold_o0 : Fld Z h0 o0 sC0 "threshold" "I" (.int 0)) (F_accessOrder_o0 : Fld Z h0 o0 sC1 "accessOrder" "Z" (.int 0)) (F_head_o0 : Fld Z h0 o0 sC1 "head" "Ljava/util/LinkedHashMap$Entry;" .null) (F_putMode_o0 : Fld Z h0 o0 sC1 "putMode" "I" (.int 0)) (F_tail_o0 : Fld Z h0 o0 sC1 "tail" "Ljava/util/LinkedHashMap$Entry;" .null) (E_o1 : Exa Z h0 o1 sC2) (F_coder_o1 : Fld Z h0 o1 sC2 "coder" "B" (.int 0)) (F_hash_o1 : Fld Z h0 o1 sC2 "hash" "I" (.int 0)) (F_hashIsZero_o1 : Fld Z h0 o1 sC2 "hashIsZero" "Z" (.int 0)) (F_value_o1 : Fld Z h0 o1 sC2 "value" "[B" (.ref o2)) (V_o2 : Arv Z h0 o2 kk_o2 .byte (1 : Int32) [(.int p0)] (.int 0)) (ne_o0_o1 : o0 ≠ o1) (ne_o0_o2 : o0 ≠ o2) (ne_o1_o2 : o1 ≠ o2) (g_o0 : n0 ≤ o0) (g_o1 : n0 ≤ o1) (hc0 : (p0 &&& (255 : Int32)) = (0 : Int32)) :
    Pay l Z My19 ws jdk_69_method_15_code 3 (some (.object sC5)) #[(.ref o0), (.ref o1), (.ref o3)] h0 ({ frames := 5, cells := 2, slots := 22, locals := 88 } : Room) (Q19_0 Z w_EMPTY_MAP w_cache w_mir0 w_mir1 z_COMPACT_STRINGS o0 o1 o2 o3 kk_o2 p0 h0 n0) := by
  refine own_body (plainFor_of_name pn_9) (L0 := #[va o0, va o1, va o3]) (fun _ => by first | rfl | (simp [entryFrame, mkF, argsToLocals, Value.category]; done)) ?_
  intro p e s m below meth c s₁ hrt hlk hx hby hml hZ hown0 hnm X0 e0
  have hown : s.vm.findClass sC0 = some m.cls := hown0
  have N0 := Fr.nil n0
  have K0 : Keep h0 h0 [o1, o0] := Keep.refl _ _
  obtain ⟨_, _, ⟨T1, L1, k1, n1⟩, -, X1, ⟨Lc1, hQ1, l1, y1, z1⟩, st1⟩ := Jvm.LawKit.callS X0 hx (y := My20) hown (mvT hZ (ww hw 128 rfl)) (mvT hZ (ww hw 129 rfl)) (mvT hZ (ww hw 85 rfl)) (mvT hZ (ww hw 130 rfl)) (by decide) (backOf (W := 1) (rm20_0 l Z a0 hw [] w_EMPTY_MAP w_cache w_mir0 w_mir1 z_COMPACT_STRINGS o1 o2 kk_o2 p0 h0 n0 O0 S E_o1 F_coder_o1 F_hash_o1 F_hashIsZero_o1 F_value_o1 V_o2 g_o1 hc0) hZ (ww hw 130 rfl) (ww hw 85 rfl) (by decide) (by decide)) (g := (mkF m 2 #[va o0, va o1, va o3] [(.ref o1), (.ref o0)])) rfl (by rw [hml]; rfl) (argsL := [(.ref o1)]) (rest := [(.ref o0)]) (lenOf pd_18 rfl) rfl (by show 2 * 0 + _ ≤ _; exact Nat.le_of_eq rfl) (hb hby d19_2) (fun _ _ => ⟨rfl, e0, (by decide : 0 + 0 ≤ _), (by decide : 0 + 0 ≤ _)⟩)
  dsimp only [Pt.U, Pt.locs, Pt.cells, Pt.slots] at X1 l1 y1 z1 st1 hQ1
  subst l1 y1 z1
  obtain ⟨rfl, Nq1, Kc1, P0_1, P1_1, P2_1, P3_1, P4_1⟩ := hQ1
  have N1 := Fr.app N0 Nq1
  have O1 := O0.keep Kc1 (allS g_o1 all0)
  have K1 : Keep h0 T1.heap [o1, o0] := K0.trans Kc1 (allS (Or.inl (List.mem_of_getElem? (i := 0) rfl)) all0)
  have fc2 := (E_o0.keep Kc1)
  have fc3 := (F_loadFactor_o0.keep Kc1 (ninS ne_o0_o1 nin0))
  have fc4 := (F_modCount_o0.keep Kc1 (ninS ne_o0_o1 nin0))
  have fc5 := (F_size_o0.keep Kc1 (ninS ne_o0_o1 nin0))
  have fc6 := (F_table_o0.keep Kc1 (ninS ne_o0_o1 nin0))
  have fc7 := (F_threshold_o0.keep Kc1 (ninS ne_o0_o1 nin0))
  have fc8 := (F_accessOrder_o0.keep Kc1 (ninS ne_o0_o1 nin0))
  have fc9 := (F_head_o0.keep Kc1 (ninS ne_o0_o1 nin0))
  have fc10 := (F_putMode_o0.keep Kc1 (ninS ne_o0_o1 nin0))
  have fc11 := (F_tail_o0.keep Kc1 (ninS ne_o0_o1 nin0))
  have fc12 := (V_o2.keep Kc1 (ninS (Ne.symm ne_o1_o2) nin0))
  obtain ⟨cq13, kq13, q13a, q13b, q13c⟩ := isOf hZ rfl fc2
  obtain ⟨_, _, ⟨T13, L13, k13, n13⟩, -, X13, ⟨Lc13, hQ13, l13, y13, z13⟩, st13⟩ := X1.virtualBack hx (y := My24) (z := My24) hown (mvT hZ (ww hw 149 rfl)) (mvT hZ (ww hw 150 rfl)) (notFace_of_selects (args := #[]) (mvT hZ (ww hw 152 rfl))) (mvT hZ (ww hw 152 rfl)) (mvT hZ (ww hw 151 rfl)) (by decide) (backOf (W := 0) (rm24_0 l Z a0 hw [] w_EMPTY_MAP w_cache w_mir0 w_mir1 z_COMPACT_STRINGS o0 o1 o2 o3 kk_o2 ((p0 &&& (255 : Int32)) ^^^ (((p0 &&& (255 : Int32)).toUInt32 >>> ((16 : Int32) &&& 31).toUInt32).toInt32)) p0 T1.heap n0 O1 S fc2 fc3 fc4 fc5 fc6 fc7 fc8 fc9 fc10 fc11 P0_1 fc12 ne_o0_o2 g_o0) hZ (ww hw 153 rfl) (ww hw 85 rfl) (by decide) (by decide)) q13a q13c (g := (mkF m 9 #[va o0, va o1, va o3] [(.int 1), (.int 0), (.ref o3), (.ref o1), (.int ((p0 &&& (255 : Int32)) ^^^ (((p0 &&& (255 : Int32)).toUInt32 >>> ((16 : Int32) &&& 31).toUInt32).toInt32))), (.ref o0)])) rfl (by rw [hml]; rfl) (Steps.refl _) (argsL := [(.int ((p0 &&& (255 : Int32)) ^^^ (((p0 &&& (255 : Int32)).toUInt32 >>> ((16 : Int32) &&& 31).toUInt32).toInt32))), (.ref o1), (.ref o3), (.int 0), (.int 1)]) (rest := []) (lenOf pd_25 rfl) rfl (by show 2 * 0 + _ ≤ _; exact Nat.le_of_eq rfl) (hb hby d19_9) (fun _ _ => ⟨rfl, rfl, (by decide : 0 + 2 ≤ _), (by decide : 0 + 22 ≤ _)⟩)
  dsimp only [Pt.U, Pt.locs, Pt.cells, Pt.slots] at X13 l13 y13 z13 st13 hQ13
  subst l13 y13 z13
  obtain ⟨b5_2_13, b1_7_13, rfl, Nq13, Kc13, P0_13, P1_13, P2_13, P3_13, P4_13, P5_13, P6_13, P7_13, P8_13, P9_13, P10_13, P11_13, P12_13, P13_13, P14_13, P15_13, P16_13, P17_13⟩ := hQ13
  have N13 := Fr.app N1 Nq13
  have ne_o0_b5_2_13 : o0 ≠ b5_2_13 := Nat.ne_of_lt (Nat.lt_of_lt_of_le fc2.lt P15_13)
  have ne_o1_b5_2_13 : o1 ≠ b5_2_13 := Nat.ne_of_lt (Nat.lt_of_lt_of_le P0_1.lt P15_13)
  have ne_o2_b5_2_13 : o2 ≠ b5_2_13 := Nat.ne_of_lt (Nat.lt_of_lt_of_le fc12.lt P15_13)
  have ne_o0_b1_7_13 : o0 ≠ b1_7_13 := Nat.ne_of_lt (Nat.lt_of_lt_of_le fc2.lt P16_13)
  have ne_o1_b1_7_13 : o1 ≠ b1_7_13 := Nat.ne_of_lt (Nat.lt_of_lt_of_le P0_1.lt P16_13)
  have ne_o2_b1_7_13 : o2 ≠ b1_7_13 := Nat.ne_of_lt (Nat.lt_of_lt_of_le fc12.lt P16_13)
  have g_b5_2_13 : n0 ≤ b5_2_13 := Nat.le_trans (own_old O1) P15_13
  have sz_b5_2_13 : h0.size ≤ b5_2_13 := Nat.le_trans K1.1 P15_13
  have g_b1_7_13 : n0 ≤ b1_7_13 := Nat.le_trans (own_old O1) P16_13
  have sz_b1_7_13 : h0.size ≤ b1_7_13 := Nat.le_trans K1.1 P16_13
  have O13 := O1.keep Kc13 (allS g_o0 all0)
  have K13 : Keep h0 T13.heap [o1, o0] := K1.trans Kc13 (allS (Or.inl (List.mem_of_getElem? (i := 1) rfl)) all0)
  obtain ⟨fs, hr, hrun, hended, hW, hsame⟩ := X13.leave (v := (some .null)) (fun h => by rw [hrt] at h; cases h)
  have fc14 := (P0_1.keep Kc13)
  have fc15 := (P1_1.keep Kc13 (ninS (Ne.symm ne_o0_o1) nin0))
  have fc16 := (P2_1.keep Kc13 (ninS (Ne.symm ne_o0_o1) nin0))
  have fc17 := (P3_1.keep Kc13 (ninS (Ne.symm ne_o0_o1) nin0))
  have fc18 := (P4_1.keep Kc13 (ninS (Ne.symm ne_o0_o1) nin0))
  refine ⟨_, _, ?_, hrun, hended, _, _, rfl, ?_, ⟨_, rfl⟩, hW, hsame.mono (by decide) (by decide)⟩
  · show Steps p.tables e below (s₁.setTop (mkF m 0 #[va o0, va o1, va o3] [])) _
    refine XS.aloadN X0.here hx rfl (hb hby d19_0) rfl rfl ?_
    refine XS.aloadN X0.here hx rfl (hb hby d19_1) rfl rfl ?_
    refine st1 _ ?_
    refine XS.aloadN X1.here hx rfl (hb hby d19_5) rfl rfl ?_
    refine XS.aloadN X1.here hx rfl (hb hby d19_6) rfl rfl ?_
    refine XS.iconst X1.here hx rfl (hb hby d19_7) ?_
    refine XS.iconst X1.here hx rfl (hb hby d19_8) ?_
    refine st13.trans ?_
    show Steps p.tables e below (T13.setTop (mkF m 12 #[va o0, va o1, va o3] [.null])) _
    exact retOut X13 hx (t := (.object sC5)) (i := .areturn) hrt rfl (Or.inr (Or.inr (Or.inr (Or.inr ⟨rfl, rfl, rfl⟩)))) (hb hby d19_12) hr
  · show Q19_0 Z w_EMPTY_MAP w_cache w_mir0 w_mir1 z_COMPACT_STRINGS o0 o1 o2 o3 kk_o2 p0 h0 n0 (some .null) T13.heap _
    exact (⟨b5_2_13, b1_7_13, rfl, N13, K13, P0_13, P1_13, P2_13, P3_13, P4_13, P5_13, P6_13, P7_13, P8_13, P9_13, fc14, fc15, fc16, fc17, fc18, P10_13, P11_13, P12_13, P13_13, P14_13, sz_b5_2_13, sz_b1_7_13, P17_13⟩)
theorem pd_26 : parseMethodDescriptor "(Ljava/lang/Object;Ljava/lang/Object;)Ljava/lang/Object;" = some ⟨[(.object sC5), (.object sC5)], some (.object sC5)⟩ := by decide +kernel
theorem d10_59 : decode prog_19_method_4_code 59 = .ok (.pop, 1) := by decide +kernel
theorem d10_60 : decode prog_19_method_4_code 60 = .ok (.new 8, 3) := by decide +kernel
theorem d10_63 : decode prog_19_method_4_code 63 = .ok (.dup, 1) := by decide +kernel
theorem d10_64 : decode prog_19_method_4_code 64 = .ok (.aload_n 0, 1) := by decide +kernel
theorem d10_65 : decode prog_19_method_4_code 65 = .ok (.getfield 7, 3) := by decide +kernel
theorem d10_68 : decode prog_19_method_4_code 68 = .ok (.aload_n 3, 1) := by decide +kernel
theorem d10_69 : decode prog_19_method_4_code 69 = .ok (.invokestatic 64, 3) := by decide +kernel
theorem pn_14 : plainName "java/util/Collections" = true := by first | (simp [plainName, overriddenIn]; done) | decide +kernel
theorem d32_0 : decode jdk_79_method_36_code 0 = .ok (.aload_n 0, 1) := by decide +kernel
theorem d32_1 : decode jdk_79_method_36_code 1 = .ok (.invokeinterface 220 1, 5) := by decide +kernel
theorem d32_6 : decode jdk_79_method_36_code 6 = .ok (.ldc 223, 2) := by decide +kernel
theorem d32_8 : decode jdk_79_method_36_code 8 = .ok (.if_acmp .ne 5, 3) := by decide +kernel
theorem d32_13 : decode jdk_79_method_36_code 13 = .ok (.new 223, 3) := by decide +kernel
theorem d32_16 : decode jdk_79_method_36_code 16 = .ok (.dup, 1) := by decide +kernel
theorem d32_17 : decode jdk_79_method_36_code 17 = .ok (.aload_n 0, 1) := by decide +kernel
theorem d32_18 : decode jdk_79_method_36_code 18 = .ok (.invokespecial 225, 3) := by decide +kernel
theorem pn_15 : plainName "java/util/Collections$UnmodifiableMap" = true := by first | (simp [plainName, overriddenIn]; done) | decide +kernel
theorem d33_0 : decode jdk_2500_method_1_code 0 = .ok (.aload_n 0, 1) := by decide +kernel
theorem d33_1 : decode jdk_2500_method_1_code 1 = .ok (.invokespecial 1, 3) := by decide +kernel
theorem d33_4 : decode jdk_2500_method_1_code 4 = .ok (.aload_n 1, 1) := by decide +kernel
theorem d33_5 : decode jdk_2500_method_1_code 5 = .ok (.ifnonnull 11, 3) := by decide +kernel
theorem d33_16 : decode jdk_2500_method_1_code 16 = .ok (.aload_n 0, 1) := by decide +kernel
theorem d33_17 : decode jdk_2500_method_1_code 17 = .ok (.aload_n 1, 1) := by decide +kernel
theorem d33_18 : decode jdk_2500_method_1_code 18 = .ok (.putfield 10, 3) := by decide +kernel
theorem d33_21 : decode jdk_2500_method_1_code 21 = .ok (.return_, 1) := by decide +kernel
def Q33_0 (Z : State) (w_EMPTY_MAP w_cache w_mir0 w_mir1 : Addr) (z_COMPACT_STRINGS : Int32) (o0 : Addr) (o1 : Addr) (o2 : Addr) (o3 : Addr) (o4 : Addr) (o5 : Addr) (o6 : Addr) (kk_o5 : ClassId) (p0 : Int32) (p1 : Int32) (h0 : Heap) (n0 : Nat) (v : Option Value) (h : Heap) (L : List Loc) : Prop := v = none ∧ Fr n0 L ∧ Keep h0 h [o0] ∧ Exa Z h o0 sC10 ∧ Fld Z h o0 sC10 "m" "Ljava/util/Map;" (.ref o1)
theorem rm33_0 (l : Launch) (Z : State) (a0 : Array Value) (hw : HW Z a0) (ws : List Jvm.Cond) (w_EMPTY_MAP w_cache w_mir0 w_mir1 : Addr) (z_COMPACT_STRINGS : Int32) (o0 : Addr) (o1 : Addr) (o2 : Addr) (o3 : Addr) (o4 : Addr) (o5 : Addr) (o6 : Addr) (kk_o5 : ClassId) (p0 : Int32) (p1 : Int32) (h0 : Heap) (n0 : Nat) (O0 : Old Z n0 h0) (S : SF Z w_EMPTY_MAP w_cache w_mir0 w_mir1 z_COMPACT_STRINGS) (E_o0 : Exa Z h0 o0 sC10) (F_m_o0 : Fld Z h0 o0 sC10 "m" "Ljava/util/Map;" .null) (g_o0 : n0 ≤ o0) :
    Pay l Z My33 ws jdk_2500_method_1_code 2 none #[(.ref o0), (.ref o1)] h0 ({ frames := 1, cells := 0, slots := 0, locals := 12 } : Room) (Q33_0 Z w_EMPTY_MAP w_cache w_mir0 w_mir1 z_COMPACT_STRINGS o0 o1 o2 o3 o4 o5 o6 kk_o5 p0 p1 h0 n0) := by
  refine own_body (plainFor_of_name pn_15) (L0 := #[va o0, va o1]) (fun _ => by first | rfl | (simp [entryFrame, mkF, argsToLocals, Value.category]; done)) ?_
  intro p e s m below meth c s₁ hrt hlk hx hby hml hZ hown0 hnm X0 e0
  have hown : s.vm.findClass sC10 = some m.cls := hown0
  have N0 := Fr.nil n0
  have K0 : Keep h0 h0 [o0] := Keep.refl _ _
  obtain ⟨T1, X1, e1, st1⟩ := initO X0 hx hZ hown (ww hw 237 rfl) (ww hw 16 rfl) (ww hw 17 rfl) e0 (g := (mkF m 1 #[va o0, va o1] [(.ref o0)])) rfl (by rw [hml]; rfl) rfl (hb hby d33_1) (by decide) (W := 0) (by show 2 * 0 + _ ≤ _; exact Nat.le_of_eq rfl) (by decide)
  obtain ⟨T2, h2, X2, e2, W2, st2⟩ := putF X1 hx hZ hown (host := "") (Or.inl (ww hw 238 rfl)) Via.refl e1 F_m_o0 E_o0 (Or.inr ⟨(ww hw 239 rfl), rfl, hnm⟩) (ww hw 232 rfl) (ty := (.object sC6)) (by decide) rfl rfl (g := (mkF m 18 #[va o0, va o1] [(.ref o1), (.ref o0)])) rfl rfl (hb hby d33_18)
  have Fw2 := F_m_o0.same W2
  have O2 := O0.wr W2 g_o0
  have K2 : Keep h0 h2 [o0] := K0.wr W2 (Or.inl (List.mem_of_getElem? (i := 0) rfl))
  have N2 := Fr.snoc X2 N0 g_o0
  obtain ⟨fs, hr, hrun, hended, hW, hsame⟩ := X2.leave (v := none) (fun _ => rfl)
  have fc3 := (E_o0.wr W2)
  refine ⟨_, _, ?_, hrun, hended, _, _, rfl, ?_, ⟨_, rfl⟩, hW, hsame.mono (by decide) (by decide)⟩
  · show Steps p.tables e below (s₁.setTop (mkF m 0 #[va o0, va o1] [])) _
    refine XS.aloadN X0.here hx rfl (hb hby d33_0) rfl rfl ?_
    refine st1 _ ?_
    refine XS.aloadN X1.here hx rfl (hb hby d33_4) rfl rfl ?_
    refine XS.ifnonnullYes X1.here hx rfl (pc0 := 5) (pc' := 16) rfl (hb hby d33_5) rfl (by decide) (by decide) ?_
    refine XS.aloadN X1.here hx rfl (hb hby d33_16) rfl rfl ?_
    refine XS.aloadN X1.here hx rfl (hb hby d33_17) rfl rfl ?_
    refine st2 _ ?_
    exact X2.returnOut hx hrt (hb hby d33_21) hr
  · show Q33_0 Z w_EMPTY_MAP w_cache w_mir0 w_mir1 z_COMPACT_STRINGS o0 o1 o2 o3 o4 o5 o6 kk_o5 p0 p1 h0 n0 none T2.heap _
    rw [e2]; exact ⟨rfl, N2, K2, fc3, Fw2⟩
theorem d32_21 : decode jdk_79_method_36_code 21 = .ok (.areturn, 1) := by decide +kernel
theorem d32_11 : decode jdk_79_method_36_code 11 = .ok (.aload_n 0, 1) := by decide +kernel
theorem d32_12 : decode jdk_79_method_36_code 12 = .ok (.areturn, 1) := by decide +kernel
def Q32_0 (Z : State) (w_EMPTY_MAP w_cache w_mir0 w_mir1 : Addr) (z_COMPACT_STRINGS : Int32) (o0 : Addr) (o1 : Addr) (o2 : Addr) (o3 : Addr) (o4 : Addr) (o5 : Addr) (kk_o4 : ClassId) (p0 : Int32) (p1 : Int32) (h0 : Heap) (n0 : Nat) (v : Option Value) (h : Heap) (L : List Loc) : Prop := ∃ (b3 : Addr), v = (some (.ref b3)) ∧ Fr n0 L ∧ Keep h0 h [] ∧ Exa Z h b3 sC10 ∧ Fld Z h b3 sC10 "m" "Ljava/util/Map;" (.ref o0) ∧ h0.size ≤ b3
theorem rm32_0 (l : Launch) (Z : State) (a0 : Array Value) (hw : HW Z a0) (ws : List Jvm.Cond) (w_EMPTY_MAP w_cache w_mir0 w_mir1 : Addr) (z_COMPACT_STRINGS : Int32) (o0 : Addr) (o1 : Addr) (o2 : Addr) (o3 : Addr) (o4 : Addr) (o5 : Addr) (kk_o4 : ClassId) (p0 : Int32) (p1 : Int32) (h0 : Heap) (n0 : Nat) (O0 : Old Z n0 h0) (S : SF Z w_EMPTY_MAP w_cache w_mir0 w_mir1 z_COMPACT_STRINGS) (E_o0 : Exa Z h0 o0 sC1) (E_o2 : Exa Z h0 o2 sC4) (E_o3 : Exa Z h0 o3 sC2) (V_o4 : Arv Z h0 o4 kk_o4 .byte (1 : Int32) [(.int p1)] (.int 0)) (hc0 : ¬ (w_mir0 = w_mir1)) :
    Pay l Z My32 ws jdk_79_method_36_code 1 (some (.object sC6)) #[(.ref o0)] h0 ({ frames := 2, cells := 1, slots := 4, locals := 26 } : Room) (Q32_0 Z w_EMPTY_MAP w_cache w_mir0 w_mir1 z_COMPACT_STRINGS o0 o1 o2 o3 o4 o5 kk_o4 p0 p1 h0 n0) := by
  obtain ⟨M_w_mir0, M_w_mir1, -⟩ := id S
  refine own_body (plainFor_of_name pn_14) (L0 := #[va o0]) (fun _ => by first | rfl | (simp [entryFrame, mkF, argsToLocals, Value.category]; done)) ?_
  intro p e s m below meth c s₁ hrt hlk hx hby hml hZ hown0 hnm X0 e0
  have hown : s.vm.findClass "java/util/Collections" = some m.cls := hown0
  have N0 := Fr.nil n0
  have K0 : Keep h0 h0 [] := Keep.refl _ _
  obtain ⟨T1, X1, e1, st1⟩ := own_gclsI X0 hx hZ hown (xi := (⟨sC6, "getClass", "()Ljava/lang/Class;"⟩ : MethodName)) (ww hw 221 rfl) (ww hw 222 rfl) (ww hw 223 rfl) (ww hw 224 rfl) (ww hw 225 rfl) (ww hw 226 rfl) (ww hw 227 rfl) (ww hw 126 rfl) (ww hw 228 rfl) (by decide) (by decide) rfl rfl e0 E_o0 M_w_mir0 (g := (mkF m 1 #[va o0] [(.ref o0)])) rfl (by rw [hml]; rfl) rfl (hb hby d32_1) (by decide) (W := 0) (by show 2 * 0 + _ ≤ _; exact Nat.le_of_eq rfl) (by decide)
  obtain ⟨T2, X2, e2, st2⟩ := own_ldcM X1 hx hZ hown (ww hw 230 rfl) e1 M_w_mir1 (g := (mkF m 6 #[va o0] [(.ref w_mir0)])) rfl (hb hby d32_6)
  obtain ⟨T3, h3, X3, e3, E3, A3, D3, -, st3⟩ := newO X2 hx hZ hown (ww hw 230 rfl) (ww hw 232 rfl) (ww hw 233 rfl) e2 (g := (mkF m 13 #[va o0] [])) rfl (hb hby d32_13) (by decide) (by decide)
  obtain ⟨b3, qs3⟩ : ∃ z, z = h0.size := ⟨_, rfl⟩
  rw [← qs3] at A3 D3 st3
  have ne_o0_b3 : o0 ≠ b3 := Nat.ne_of_lt (Nat.lt_of_lt_of_le E_o0.lt (Nat.le_of_eq qs3.symm))
  have ne_o2_b3 : o2 ≠ b3 := Nat.ne_of_lt (Nat.lt_of_lt_of_le E_o2.lt (Nat.le_of_eq qs3.symm))
  have ne_o3_b3 : o3 ≠ b3 := Nat.ne_of_lt (Nat.lt_of_lt_of_le E_o3.lt (Nat.le_of_eq qs3.symm))
  have ne_o4_b3 : o4 ≠ b3 := Nat.ne_of_lt (Nat.lt_of_lt_of_le V_o4.lt (Nat.le_of_eq qs3.symm))
  have g_b3 : n0 ≤ b3 := Nat.le_trans (own_old O0) (Nat.le_of_eq qs3.symm)
  have sz_b3 : h0.size ≤ b3 := Nat.le_trans K0.1 (Nat.le_of_eq qs3.symm)
  have O3 := O0.ext E3
  have K3 : Keep h0 h3 [] := K0.ext E3
  have F_m_b3 : Fld Z h3 b3 sC10 "m" "Ljava/util/Map;" .null := D3 (Or.inr (ww hw 239 rfl)) (ty := (.object sC6)) (by decide)
  obtain ⟨_, _, ⟨T4, L4, k4, n4⟩, -, X4, ⟨Lc4, hQ4, l4, y4, z4⟩, st4⟩ := X3.specialBack hx (y := My33) rfl hown (mvT hZ (ww hw 234 rfl)) (mvT hZ (ww hw 235 rfl)) (mvT hZ (ww hw 236 rfl)) (by decide) (backOf (W := 1) (rm33_0 l Z a0 hw [] w_EMPTY_MAP w_cache w_mir0 w_mir1 z_COMPACT_STRINGS b3 o0 o1 o2 o3 o4 o5 kk_o4 p0 p1 h3 n0 O3 S A3 F_m_b3 g_b3) hZ (ww hw 236 rfl) (ww hw 233 rfl) (by decide) (by decide)) (g := (mkF m 18 #[va o0] [(.ref o0), (.ref b3), (.ref b3)])) rfl (by rw [hml]; rfl) (Steps.refl _) (a := b3) (argsL := [(.ref o0)]) (rest := [(.ref b3)]) (lenOf pd_15 rfl) rfl (by show 2 * 0 + _ ≤ _; exact Nat.le_of_eq rfl) (hb hby d32_18) (fun _ _ => ⟨rfl, e3, (by decide : 1 + 0 ≤ _), (by decide : 4 + 0 ≤ _)⟩)
  dsimp only [Pt.U, Pt.locs, Pt.cells, Pt.slots] at X4 l4 y4 z4 st4 hQ4
  subst l4 y4 z4
  have fc5 := (E_o0.ext E3)
  have fc6 := (E_o2.ext E3)
  have fc7 := (E_o3.ext E3)
  have fc8 := (V_o4.ext E3)
  obtain ⟨rfl, Nq4, Kc4, P0_4, P1_4⟩ := hQ4
  have N4 := Fr.app N0 Nq4
  have O4 := O3.keep Kc4 (allS g_b3 all0)
  have K4 : Keep h0 T4.heap [] := K3.trans Kc4 (allS (Or.inr sz_b3) all0)
  obtain ⟨fs, hr, hrun, hended, hW, hsame⟩ := X4.leave (v := (some (.ref b3))) (fun h => by rw [hrt] at h; cases h)
  refine ⟨_, _, ?_, hrun, hended, _, _, rfl, ?_, ⟨_, rfl⟩, hW, hsame.mono (by decide) (by decide)⟩
  · show Steps p.tables e below (s₁.setTop (mkF m 0 #[va o0] [])) _
    refine XS.aloadN X0.here hx rfl (hb hby d32_0) rfl rfl ?_
    refine st1 _ ?_
    refine st2 _ ?_
    refine Jvm.RoadKit.acmp (g := (mkF m 8 #[va o0] [(.ref w_mir1), (.ref w_mir0)])) X2 hx rfl rfl rfl (pc0 := 8) (pc' := 13) (same := false) rfl (hb hby d32_8) rfl (decide_eq_false fun q => hc0 (Value.ref.inj q)) (by decide) (by decide) ?_
    refine st3 _ ?_
    refine XS.dup X3.here hx rfl (hb hby d32_16) rfl rfl ?_
    refine XS.aloadN X3.here hx rfl (hb hby d32_17) rfl rfl ?_
    refine st4.trans ?_
    show Steps p.tables e below (T4.setTop (mkF m 21 #[va o0] [(.ref b3)])) _
    exact retOut X4 hx (t := (.object sC6)) (i := .areturn) hrt rfl (Or.inr (Or.inr (Or.inr (Or.inr ⟨rfl, rfl, rfl⟩)))) (hb hby d32_21) hr
  · show Q32_0 Z w_EMPTY_MAP w_cache w_mir0 w_mir1 z_COMPACT_STRINGS o0 o1 o2 o3 o4 o5 kk_o4 p0 p1 h0 n0 (some (.ref b3)) T4.heap _
    exact (⟨b3, rfl, N4, K4, P0_4, P1_4, sz_b3⟩)
def Q32_1 (Z : State) (w_EMPTY_MAP w_cache w_mir0 w_mir1 : Addr) (z_COMPACT_STRINGS : Int32) (o0 : Addr) (o1 : Addr) (o2 : Addr) (o3 : Addr) (o4 : Addr) (o5 : Addr) (kk_o4 : ClassId) (p0 : Int32) (p1 : Int32) (h0 : Heap) (n0 : Nat) (v : Option Value) (h : Heap) (L : List Loc) : Prop := v = (some (.ref o0)) ∧ Fr n0 L ∧ h = h0
theorem rm32_1 (l : Launch) (Z : State) (a0 : Array Value) (hw : HW Z a0) (ws : List Jvm.Cond) (w_EMPTY_MAP w_cache w_mir0 w_mir1 : Addr) (z_COMPACT_STRINGS : Int32) (o0 : Addr) (o1 : Addr) (o2 : Addr) (o3 : Addr) (o4 : Addr) (o5 : Addr) (kk_o4 : ClassId) (p0 : Int32) (p1 : Int32) (h0 : Heap) (n0 : Nat) (O0 : Old Z n0 h0) (S : SF Z w_EMPTY_MAP w_cache w_mir0 w_mir1 z_COMPACT_STRINGS) (E_o0 : Exa Z h0 o0 sC1) (hc0 : w_mir0 = w_mir1) :
    Pay l Z My32 ws jdk_79_method_36_code 1 (some (.object sC6)) #[(.ref o0)] h0 ({ frames := 2, cells := 1, slots := 4, locals := 26 } : Room) (Q32_1 Z w_EMPTY_MAP w_cache w_mir0 w_mir1 z_COMPACT_STRINGS o0 o1 o2 o3 o4 o5 kk_o4 p0 p1 h0 n0) := by
  obtain ⟨M_w_mir0, M_w_mir1, -⟩ := id S
  refine own_body (plainFor_of_name pn_14) (L0 := #[va o0]) (fun _ => by first | rfl | (simp [entryFrame, mkF, argsToLocals, Value.category]; done)) ?_
  intro p e s m below meth c s₁ hrt hlk hx hby hml hZ hown0 hnm X0 e0
  have hown : s.vm.findClass "java/util/Collections" = some m.cls := hown0
  have N0 := Fr.nil n0
  have K0 : Keep h0 h0 [] := Keep.refl _ _
  obtain ⟨T1, X1, e1, st1⟩ := own_gclsI X0 hx hZ hown (xi := (⟨sC6, "getClass", "()Ljava/lang/Class;"⟩ : MethodName)) (ww hw 221 rfl) (ww hw 222 rfl) (ww hw 223 rfl) (ww hw 224 rfl) (ww hw 225 rfl) (ww hw 226 rfl) (ww hw 227 rfl) (ww hw 126 rfl) (ww hw 228 rfl) (by decide) (by decide) rfl rfl e0 E_o0 M_w_mir0 (g := (mkF m 1 #[va o0] [(.ref o0)])) rfl (by rw [hml]; rfl) rfl (hb hby d32_1) (by decide) (W := 0) (by show 2 * 0 + _ ≤ _; exact Nat.le_of_eq rfl) (by decide)
  obtain ⟨T2, X2, e2, st2⟩ := own_ldcM X1 hx hZ hown (ww hw 230 rfl) e1 M_w_mir1 (g := (mkF m 6 #[va o0] [(.ref w_mir0)])) rfl (hb hby d32_6)
  obtain ⟨fs, hr, hrun, hended, hW, hsame⟩ := X2.leave (v := (some (.ref o0))) (fun h => by rw [hrt] at h; cases h)
  refine ⟨_, _, ?_, hrun, hended, _, _, rfl, ?_, ⟨_, rfl⟩, hW, hsame.mono (by decide) (by decide)⟩
  · show Steps p.tables e below (s₁.setTop (mkF m 0 #[va o0] [])) _
    refine XS.aloadN X0.here hx rfl (hb hby d32_0) rfl rfl ?_
    refine st1 _ ?_
    refine st2 _ ?_
    refine Jvm.RoadKit.acmp (g := (mkF m 8 #[va o0] [(.ref w_mir1), (.ref w_mir0)])) X2 hx rfl rfl rfl (pc0 := 8) (pc' := 11) (same := true) rfl (hb hby d32_8) rfl (decide_eq_true (congrArg Value.ref hc0)) (by decide) (by decide) ?_
    refine XS.aloadN X2.here hx rfl (hb hby d32_11) rfl rfl ?_
    exact retOut X2 hx (t := (.object sC6)) (i := .areturn) hrt rfl (Or.inr (Or.inr (Or.inr (Or.inr ⟨rfl, rfl, rfl⟩)))) (hb hby d32_12) hr
  · show Q32_1 Z w_EMPTY_MAP w_cache w_mir0 w_mir1 z_COMPACT_STRINGS o0 o1 o2 o3 o4 o5 kk_o4 p0 p1 h0 n0 (some (.ref o0)) T2.heap _
    exact (⟨rfl, N0, e2⟩)
def Qb1 (h0 : Heap) (n0 : Nat) (v : Option Value) (h : Heap) (L : List Loc) : Prop := ∃ (r : Addr), v = some (.ref r) ∧ Fr n0 L ∧ Keep h0 h []
theorem bm1 (l : Launch) (Z : State) (a0 : Array Value) (hw : HW Z a0) (ws : List Jvm.Cond) (w_EMPTY_MAP w_cache w_mir0 w_mir1 : Addr) (z_COMPACT_STRINGS : Int32) (o0 : Addr) (o1 : Addr) (o2 : Addr) (o3 : Addr) (o4 : Addr) (o5 : Addr) (kk_o4 : ClassId) (p0 : Int32) (p1 : Int32) (h0 : Heap) (n0 : Nat) (O0 : Old Z n0 h0) (S : SF Z w_EMPTY_MAP w_cache w_mir0 w_mir1 z_COMPACT_STRINGS) (E_o0 : Exa Z h0 o0 sC1) (E_o2 : Exa Z h0 o2 sC4) (E_o3 : Exa Z h0 o3 sC2) (V_o4 : Arv Z h0 o4 kk_o4 .byte (1 : Int32) [(.int p1)] (.int 0)) :
    Pay l Z My32 ws jdk_79_method_36_code 1 (some (.object sC6)) #[(.ref o0)] h0 ({ frames := 2, cells := 1, slots := 4, locals := 26 } : Room) (Qb1 h0 n0) := by
  by_cases hm0 : w_mir0 = w_mir1
  · refine MetFree.mono (rm32_1 l Z a0 hw ws w_EMPTY_MAP w_cache w_mir0 w_mir1 z_COMPACT_STRINGS o0 o1 o2 o3 o4 o5 kk_o4 p0 p1 h0 n0 O0 S E_o0 hm0) (fun _ _ q => q) (fun _ _ _ _ _ q => q) ?_
    rintro _ U o U' - ⟨v, L, rfl, ⟨rfl, N, K⟩, fe⟩
    exact ⟨_, L, rfl, ⟨o0, rfl, N, by rw [K]; exact Keep.refl _ _⟩, fe⟩
  · refine MetFree.mono (rm32_0 l Z a0 hw ws w_EMPTY_MAP w_cache w_mir0 w_mir1 z_COMPACT_STRINGS o0 o1 o2 o3 o4 o5 kk_o4 p0 p1 h0 n0 O0 S E_o0 E_o2 E_o3 V_o4 hm0) (fun _ _ q => q) (fun _ _ _ _ _ q => q) ?_
    rintro _ U o U' - ⟨v, L, rfl, ⟨f0, rfl, N, K, q0, q1, q2⟩, fe⟩
    exact ⟨_, L, rfl, ⟨f0, rfl, N, K⟩, fe⟩
theorem pd_27 : parseMethodDescriptor "(Ljava/util/Map;)Ljava/util/Map;" = some ⟨[(.object sC6)], some (.object sC6)⟩ := by decide +kernel
theorem d10_72 : decode prog_19_method_4_code 72 = .ok (.invokespecial 23, 3) := by decide +kernel
def Q3_1 (Z : State) (w_EMPTY_MAP w_cache w_mir0 w_mir1 : Addr) (z_COMPACT_STRINGS : Int32) (o0 : Addr) (o1 : Addr) (h0 : Heap) (n0 : Nat) (v : Option Value) (h : Heap) (L : List Loc) : Prop := v = none ∧ Fr n0 L ∧ Keep h0 h [o0] ∧ Exa Z h o0 sC7 ∧ Fld Z h o0 sC7 "errorMessage" "Ljava/lang/String;" .null ∧ Fld Z h o0 sC7 "values" "Ljava/util/Map;" (.ref o1)
theorem rm3_1 (l : Launch) (Z : State) (a0 : Array Value) (hw : HW Z a0) (ws : List Jvm.Cond) (w_EMPTY_MAP w_cache w_mir0 w_mir1 : Addr) (z_COMPACT_STRINGS : Int32) (o0 : Addr) (o1 : Addr) (h0 : Heap) (n0 : Nat) (O0 : Old Z n0 h0) (S : SF Z w_EMPTY_MAP w_cache w_mir0 w_mir1 z_COMPACT_STRINGS) (E_o0 : Exa Z h0 o0 sC7) (F_errorMessage_o0 : Fld Z h0 o0 sC7 "errorMessage" "Ljava/lang/String;" .null) (F_values_o0 : Fld Z h0 o0 sC7 "values" "Ljava/util/Map;" .null) (g_o0 : n0 ≤ o0) :
    Pay l Z My3 ws prog_19_method_1_code 3 none #[(.ref o0), .null, (.ref o1)] h0 ({ frames := 1, cells := 0, slots := 0, locals := 12 } : Room) (Q3_1 Z w_EMPTY_MAP w_cache w_mir0 w_mir1 z_COMPACT_STRINGS o0 o1 h0 n0) := by
  refine own_body (plainFor_of_name pn_1) (L0 := #[va o0, .val .null, va o1]) (fun _ => by first | rfl | (simp [entryFrame, mkF, argsToLocals, Value.category]; done)) ?_
  intro p e s m below meth c s₁ hrt hlk hx hby hml hZ hown0 hnm X0 e0
  have hown : s.vm.findClass sC7 = some m.cls := hown0
  have N0 := Fr.nil n0
  have K0 : Keep h0 h0 [o0] := Keep.refl _ _
  obtain ⟨T1, X1, e1, st1⟩ := initO X0 hx hZ hown (ww hw 15 rfl) (ww hw 16 rfl) (ww hw 17 rfl) e0 (g := (mkF m 1 #[va o0, .val .null, va o1] [(.ref o0)])) rfl (by rw [hml]; rfl) rfl (hb hby d3_1) (by decide) (W := 0) (by show 2 * 0 + _ ≤ _; exact Nat.le_of_eq rfl) (by decide)
  obtain ⟨T2, h2, X2, e2, W2, st2⟩ := putF X1 hx hZ hown (host := "") (Or.inl (ww hw 18 rfl)) Via.refl e1 F_errorMessage_o0 E_o0 (Or.inr ⟨(ww hw 19 rfl), rfl, hnm⟩) (ww hw 5 rfl) (ty := (.object sC2)) (by decide) rfl rfl (g := (mkF m 6 #[va o0, .val .null, va o1] [.null, (.ref o0)])) rfl rfl (hb hby d3_6)
  have Fw2 := F_errorMessage_o0.same W2
  have O2 := O0.wr W2 g_o0
  have K2 : Keep h0 h2 [o0] := K0.wr W2 (Or.inl (List.mem_of_getElem? (i := 0) rfl))
  have N2 := Fr.snoc X2 N0 g_o0
  have fc3 := (F_values_o0.other W2 (Or.inr (slot_ne (Or.inr (ww hw 21 rfl)) (Or.inr (ww hw 19 rfl)) (by decide) (t := (.object sC6)) (t' := (.object sC2)) (by decide) (by decide))))
  have fc4 := (E_o0.wr W2)
  obtain ⟨T5, h5, X5, e5, W5, st5⟩ := putF X2 hx hZ hown (host := "") (Or.inl (ww hw 20 rfl)) Via.refl e2 fc3 fc4 (Or.inr ⟨(ww hw 21 rfl), rfl, hnm⟩) (ww hw 5 rfl) (ty := (.object sC6)) (by decide) rfl rfl (g := (mkF m 11 #[va o0, .val .null, va o1] [(.ref o1), (.ref o0)])) rfl rfl (hb hby d3_11)
  have Fw5 := fc3.same W5
  have O5 := O2.wr W5 g_o0
  have K5 : Keep h0 h5 [o0] := K2.wr W5 (Or.inl (List.mem_of_getElem? (i := 0) rfl))
  have N5 := Fr.snoc X5 N2 g_o0
  obtain ⟨fs, hr, hrun, hended, hW, hsame⟩ := X5.leave (v := none) (fun _ => rfl)
  have fc6 := (fc4.wr W5)
  have fc7 := (Fw2.other W5 (Or.inr (slot_ne (Or.inr (ww hw 19 rfl)) (Or.inr (ww hw 21 rfl)) (by decide) (t := (.object sC2)) (t' := (.object sC6)) (by decide) (by decide))))
  refine ⟨_, _, ?_, hrun, hended, _, _, rfl, ?_, ⟨_, rfl⟩, hW, hsame.mono (by decide) (by decide)⟩
  · show Steps p.tables e below (s₁.setTop (mkF m 0 #[va o0, .val .null, va o1] [])) _
    refine XS.aloadN X0.here hx rfl (hb hby d3_0) rfl rfl ?_
    refine st1 _ ?_
    refine XS.aloadN X1.here hx rfl (hb hby d3_4) rfl rfl ?_
    refine XS.aloadN X1.here hx rfl (hb hby d3_5) rfl rfl ?_
    refine st2 _ ?_
    refine XS.aloadN X2.here hx rfl (hb hby d3_9) rfl rfl ?_
    refine XS.aloadN X2.here hx rfl (hb hby d3_10) rfl rfl ?_
    refine st5 _ ?_
    show Steps p.tables e below (T5.setTop (mkF m 14 #[va o0, .val .null, va o1] [])) _
    exact X5.returnOut hx hrt (hb hby d3_14) hr
  · show Q3_1 Z w_EMPTY_MAP w_cache w_mir0 w_mir1 z_COMPACT_STRINGS o0 o1 h0 n0 none T5.heap _
    rw [e5]; exact ⟨rfl, N5, K5, fc6, fc7, Fw5⟩
theorem d10_75 : decode prog_19_method_4_code 75 = .ok (.areturn, 1) := by decide +kernel
def Q10_0 (Z : State) (w_EMPTY_MAP w_cache w_mir0 w_mir1 : Addr) (z_COMPACT_STRINGS : Int32) (o0 : Addr) (o1 : Addr) (o2 : Addr) (o3 : Addr) (kk_o2 : ClassId) (p0 : Int32) (h0 : Heap) (n0 : Nat) (v : Option Value) (h : Heap) (L : List Loc) : Prop := ∃ (b61 : Addr), ∃ (r_68 : Addr), v = (some (.ref b61)) ∧ Fr n0 L ∧ Keep h0 h [o1] ∧ Exa Z h o1 sC2 ∧ Fld Z h o1 sC2 "coder" "B" (.int 0) ∧ Fld Z h o1 sC2 "hash" "I" (.int 0) ∧ Fld Z h o1 sC2 "hashIsZero" "Z" (.int 1) ∧ Fld Z h o1 sC2 "value" "[B" (.ref o2) ∧ Exa Z h b61 sC7 ∧ Fld Z h b61 sC7 "errorMessage" "Ljava/lang/String;" .null ∧ Fld Z h b61 sC7 "values" "Ljava/util/Map;" (.ref r_68) ∧ h0.size ≤ b61
theorem rm10_0 (l : Launch) (Z : State) (a0 : Array Value) (hw : HW Z a0) (ws : List Jvm.Cond) (w_EMPTY_MAP w_cache w_mir0 w_mir1 : Addr) (z_COMPACT_STRINGS : Int32) (o0 : Addr) (o1 : Addr) (o2 : Addr) (o3 : Addr) (kk_o2 : ClassId) (p0 : Int32) (h0 : Heap) (n0 : Nat) (O0 : Old Z n0 h0) (S : SF Z w_EMPTY_MAP w_cache w_mir0 w_mir1 z_COMPACT_STRINGS) (E_o0 : Exa Z h0 o0 sC7) (F_errorMessage_o0 : Fld Z h0 o0 sC7 "errorMessage" "Ljava/lang/String;" .null) (F_values_o0 : Fld Z h0 o0 sC7 "values" "Ljava/util/Map;" (.ref w_EMPTY_MAP)) (E_o1 : Exa Z h0 o1 sC2) (F_coder_o1 : Fld Z h0 o1 sC2 "coder" "B" (.int 0)) (F_hash_o1 : Fld Z h0 o1 sC2 "hash" "I" (.int 0)) (F_hashIsZero_o1 : Fld Z h0 o1 sC2 "hashIsZero" "Z" (.int 0)) (F_value_o1 : Fld Z h0 o1 sC2 "value" "[B" (.ref o2)) (V_o2 : Arv Z h0 o2 kk_o2 .byte (1 : Int32) [(.int p0)] (.int 0)) (ne_o0_o1 : o0 ≠ o1) (ne_o1_o2 : o1 ≠ o2) (g_o0 : n0 ≤ o0) (g_o1 : n0 ≤ o1) (g_o2 : n0 ≤ o2) (hc0 : (p0 &&& (255 : Int32)) = (0 : Int32)) :
    PayE n0 l Z My10 ws prog_19_method_4_code 4 (some (.object sC7)) #[(.ref o0), (.ref o1), (.ref o3)] h0 ({ frames := 6, cells := 11, slots := 96, locals := 102 } : Room) (Q10_0 Z w_EMPTY_MAP w_cache w_mir0 w_mir1 z_COMPACT_STRINGS o0 o1 o2 o3 kk_o2 p0 h0 n0) := by
  refine own_bodyE (plainFor_of_name pn_1) (L0 := #[va o0, va o1, va o3, uu]) (fun _ => by first | rfl | (simp [entryFrame, mkF, argsToLocals, Value.category]; done)) ?_
  intro p e s m below meth c s₁ hrt hlk hx hby hml hZ hown0 hnm X0 e0 hCH
  have hown : s.vm.findClass sC7 = some m.cls := hown0
  have N0 := Fr.nil n0
  have K0 : Keep h0 h0 [o1] := Keep.refl _ _
  obtain ⟨a1, T1, h1, kk1, b1, k1, X1, e1, E1, hS1, hk1, hZ1, hown1, Ea1, Fc1, Fv1, Vb1, -, -, hC1, -, hD1, st1⟩ := ldcCH (s := s) (vm0 := s.vm) X0 hx hZ hown (ww hw 58 rfl) (own_wS hw) e0 ((State.WarmedH.refl s).since 0) (Nat.zero_le _) (own_EW hw) (List.mem_of_getElem? (i := 0) rfl) hCH.1 (vs := [.int (110 : Int32), .int (97 : Int32), .int (109 : Int32), .int (101 : Int32)]) (z := (4 : Int32)) ⟨by first | decide +kernel | decide, by first | rfl | decide +kernel⟩ (by decide) (by decide) (g := (mkF m 1 #[va o0, va o1, va o3, uu] [(.ref o1)])) rfl (hb hby d10_1) (n := 16) (by decide +kernel) (by decide) (by decide) (by decide)
  have sf1_o0 := hC1.safe E_o0.lt (fun B => absurd (hCH.2 _ B) (Nat.not_lt_of_le g_o0))
  have sf1_o1 := hC1.safe E_o1.lt (fun B => absurd (hCH.2 _ B) (Nat.not_lt_of_le g_o1))
  have sf1_o2 := hC1.safe V_o2.lt (fun B => absurd (hCH.2 _ B) (Nat.not_lt_of_le g_o2))
  have O1 := O0.ext E1
  have K1 : Keep h0 h1 [o1] := K0.ext E1
  obtain ⟨_, _, ⟨T2, L2, k2, n2⟩, -, X2, ⟨Lc2, hQ2, l2, y2, z2⟩, st2⟩ := Jvm.LawKit.callS X1 hx (y := (⟨"java/util/Objects", "requireNonNull", "(Ljava/lang/Object;Ljava/lang/String;)Ljava/lang/Object;"⟩ : MethodName)) hown1 (mvT hZ1 (ww hw 61 rfl)) (mvT hZ1 (ww hw 62 rfl)) (mvT hZ1 (ww hw 63 rfl)) (mvT hZ1 (ww hw 64 rfl)) (by decide) (backOf (W := 0) (rm11_0 l Z a0 hw [] w_EMPTY_MAP w_cache w_mir0 w_mir1 z_COMPACT_STRINGS o1 o2 a1 b1 kk_o2 k1 p0 h1 n0 O1 S) hZ1 (ww hw 64 rfl) (ww hw 63 rfl) (by decide) (by decide)) (g := (mkF m 3 #[va o0, va o1, va o3, uu] [(.ref a1), (.ref o1)])) rfl (by rw [hml]; rfl) (argsL := [(.ref o1), (.ref a1)]) (rest := []) (lenOf pd_10 rfl) rfl (by show 2 * 0 + _ ≤ _; exact Nat.le_of_eq rfl) (hb hby d10_3) (fun _ _ => ⟨rfl, e1, (by decide : 2 + 0 ≤ _), (by decide : 20 + 0 ≤ _)⟩)
  dsimp only [Pt.U, Pt.locs, Pt.cells, Pt.slots] at X2 l2 y2 z2 st2 hQ2
  subst l2 y2 z2
  obtain ⟨rfl, Nq2, e2⟩ := hQ2
  have N2 := Fr.app N0 Nq2
  have fc4 := (E_o0.ext E1)
  have fc5 := (E_o1.ext E1)
  have fc6 := (V_o2.ext E1)
  obtain ⟨a3, T3, h3, kk3, b3, k3, X3, e3, E3, hS3, hk3, hZ3, hown3, Ea3, Fc3, Fv3, Vb3, -, -, hC3, -, hD3, st3⟩ := ldcCH (s := s) (vm0 := T1.vm) X2 hx hZ1 hown1 (ww hw 65 rfl) (own_wS hw) e2 hS1 hk1 (own_EW hw) (List.mem_of_getElem? (i := 1) rfl) hC1.1 (vs := [.int (111 : Int32), .int (107 : Int32)]) (z := (2 : Int32)) ⟨by first | decide +kernel | decide, by first | rfl | decide +kernel⟩ (by decide) (by decide) (g := (mkF m 8 #[va o0, va o1, va o3, uu] [(.ref o1)])) rfl (hb hby d10_8) (n := 8) (by decide +kernel) (by decide) (by decide) (by decide)
  have sf3_o0 := hC3.safe fc4.lt sf1_o0
  have sf3_o1 := hC3.safe fc5.lt sf1_o1
  have sf3_o2 := hC3.safe fc6.lt sf1_o2
  have O3 := O1.ext E3
  have K3 : Keep h0 h3 [o1] := K1.ext E3
  have fc7 := ((F_coder_o1.ext E1).ext E3)
  have fc8 := ((F_value_o1.ext E1).ext E3)
  have fc9 := (fc6.ext E3)
  have fc11 := (fc5.ext E3)
  obtain ⟨cq10, kq10, q10a, q10b, q10c⟩ := isOf hZ3 e3 fc11
  obtain ⟨_, _, ⟨T10, L10, k10, n10⟩, -, X10, ⟨Lc10, hQ10, l10, y10, z10⟩, st10⟩ := X3.virtualBack hx (y := My12) (z := My12) hown3 (mvT hZ3 (ww hw 66 rfl)) (mvT hZ3 (ww hw 67 rfl)) (notFace_of_selects (args := #[]) (mvT hZ3 (ww hw 69 rfl))) (mvT hZ3 (ww hw 69 rfl)) (mvT hZ3 (ww hw 68 rfl)) (by decide) (backOf (W := 0) (rm12_0 l Z a0 hw [] w_EMPTY_MAP w_cache w_mir0 w_mir1 z_COMPACT_STRINGS o1 o2 a3 b3 kk_o2 k3 p0 h3 n0 O3 S fc7 fc8 fc9 Ea3 Fc3 Fv3 Vb3 (hD3 _ sf3_o1).1) hZ3 (ww hw 70 rfl) (ww hw 24 rfl) (by decide) (by decide)) q10a q10c (g := (mkF m 10 #[va o0, va o1, va o3, uu] [(.ref a3), (.ref o1)])) rfl (by rw [hml]; rfl) (Steps.refl _) (argsL := [(.ref a3)]) (rest := []) (lenOf pd_12 rfl) rfl (by show 2 * 0 + _ ≤ _; exact Nat.le_of_eq rfl) (hb hby d10_10) (fun _ _ => ⟨rfl, e3, (by decide : 4 + 0 ≤ _), (by decide : 32 + 0 ≤ _)⟩)
  dsimp only [Pt.U, Pt.locs, Pt.cells, Pt.slots] at X10 l10 y10 z10 st10 hQ10
  subst l10 y10 z10
  obtain ⟨rfl, Nq10, e10⟩ := hQ10
  have N10 := Fr.app N2 Nq10
  have fc13 := (fc4.ext E3)
  have fc14 := (Ea1.ext E3)
  have fc15 := (Vb1.ext E3)
  obtain ⟨a12, T12, h12, kk12, b12, k12, X12, e12, E12, hS12, hk12, hZ12, hown12, Ea12, Fc12, Fv12, Vb12, -, -, hC12, -, hD12, st12⟩ := ldcCH (s := s) (vm0 := T3.vm) X10 hx hZ3 hown3 (ww hw 74 rfl) (own_wS hw) e10 hS3 hk3 (own_EW hw) (List.mem_of_getElem? (i := 2) rfl) hC3.1 (vs := [.int (101 : Int32), .int (114 : Int32), .int (114 : Int32), .int (111 : Int32), .int (114 : Int32)]) (z := (5 : Int32)) ⟨by first | decide +kernel | decide, by first | rfl | decide +kernel⟩ (by decide) (by decide) (g := (mkF m 17 #[va o0, va o1, va o3, uu] [(.ref o1)])) rfl (hb hby d10_17) (n := 20) (by decide +kernel) (by decide) (by decide) (by decide)
  have sf12_o0 := hC12.safe fc13.lt sf3_o0
  have sf12_o1 := hC12.safe fc11.lt sf3_o1
  have sf12_o2 := hC12.safe fc9.lt sf3_o2
  have O12 := O3.ext E12
  have K12 : Keep h0 h12 [o1] := K3.ext E12
  have fc16 := (fc7.ext E12)
  have fc17 := (fc8.ext E12)
  have fc18 := (fc9.ext E12)
  have fc20 := (fc11.ext E12)
  obtain ⟨cq19, kq19, q19a, q19b, q19c⟩ := isOf hZ12 e12 fc20
  obtain ⟨_, _, ⟨T19, L19, k19, n19⟩, -, X19, ⟨Lc19, hQ19, l19, y19, z19⟩, st19⟩ := X12.virtualBack hx (y := My12) (z := My12) hown12 (mvT hZ12 (ww hw 66 rfl)) (mvT hZ12 (ww hw 67 rfl)) (notFace_of_selects (args := #[]) (mvT hZ12 (ww hw 69 rfl))) (mvT hZ12 (ww hw 69 rfl)) (mvT hZ12 (ww hw 68 rfl)) (by decide) (backOf (W := 0) (rm12_1 l Z a0 hw [] w_EMPTY_MAP w_cache w_mir0 w_mir1 z_COMPACT_STRINGS o1 o2 a12 b12 kk_o2 k12 p0 h12 n0 O12 S fc16 fc17 fc18 Ea12 Fc12 Fv12 Vb12 (hD12 _ sf12_o1).1) hZ12 (ww hw 70 rfl) (ww hw 24 rfl) (by decide) (by decide)) q19a q19c (g := (mkF m 19 #[va o0, va o1, va o3, uu] [(.ref a12), (.ref o1)])) rfl (by rw [hml]; rfl) (Steps.refl _) (argsL := [(.ref a12)]) (rest := []) (lenOf pd_12 rfl) rfl (by show 2 * 0 + _ ≤ _; exact Nat.le_of_eq rfl) (hb hby d10_19) (fun _ _ => ⟨rfl, e12, (by decide : 6 + 0 ≤ _), (by decide : 56 + 0 ≤ _)⟩)
  dsimp only [Pt.U, Pt.locs, Pt.cells, Pt.slots] at X19 l19 y19 z19 st19 hQ19
  subst l19 y19 z19
  obtain ⟨rfl, Nq19, e19⟩ := hQ19
  have N19 := Fr.app N10 Nq19
  have fc21 := (fc13.ext E12)
  have fc22 := (fc14.ext E12)
  have fc23 := (fc15.ext E12)
  have fc24 := (Ea3.ext E12)
  have fc25 := (Vb3.ext E12)
  obtain ⟨T26, h26, X26, e26, E26, A26, D26, -, st26⟩ := newO X19 hx hZ12 hown12 (ww hw 75 rfl) (ww hw 76 rfl) (ww hw 77 rfl) e19 (g := (mkF m 39 #[va o0, va o1, va o3, uu] [])) rfl (hb hby d10_39) (by decide) (by decide)
  obtain ⟨b26, qs26⟩ : ∃ z, z = h12.size := ⟨_, rfl⟩
  rw [← qs26] at A26 D26 st26
  have ne_o0_b26 : o0 ≠ b26 := Nat.ne_of_lt (Nat.lt_of_lt_of_le fc21.lt (Nat.le_of_eq qs26.symm))
  have ne_o1_b26 : o1 ≠ b26 := Nat.ne_of_lt (Nat.lt_of_lt_of_le fc20.lt (Nat.le_of_eq qs26.symm))
  have ne_o2_b26 : o2 ≠ b26 := Nat.ne_of_lt (Nat.lt_of_lt_of_le fc18.lt (Nat.le_of_eq qs26.symm))
  have ne_a1_b26 : a1 ≠ b26 := Nat.ne_of_lt (Nat.lt_of_lt_of_le fc22.lt (Nat.le_of_eq qs26.symm))
  have ne_b1_b26 : b1 ≠ b26 := Nat.ne_of_lt (Nat.lt_of_lt_of_le fc23.lt (Nat.le_of_eq qs26.symm))
  have ne_a3_b26 : a3 ≠ b26 := Nat.ne_of_lt (Nat.lt_of_lt_of_le fc24.lt (Nat.le_of_eq qs26.symm))
  have ne_b3_b26 : b3 ≠ b26 := Nat.ne_of_lt (Nat.lt_of_lt_of_le fc25.lt (Nat.le_of_eq qs26.symm))
  have ne_a12_b26 : a12 ≠ b26 := Nat.ne_of_lt (Nat.lt_of_lt_of_le Ea12.lt (Nat.le_of_eq qs26.symm))
  have ne_b12_b26 : b12 ≠ b26 := Nat.ne_of_lt (Nat.lt_of_lt_of_le Vb12.lt (Nat.le_of_eq qs26.symm))
  have g_b26 : n0 ≤ b26 := Nat.le_trans (own_old O12) (Nat.le_of_eq qs26.symm)
  have sz_b26 : h0.size ≤ b26 := Nat.le_trans K12.1 (Nat.le_of_eq qs26.symm)
  have O26 := O12.ext E26
  have K26 : Keep h0 h26 [o1] := K12.ext E26
  have F_loadFactor_b26 : Fld Z h26 b26 sC0 "loadFactor" "F" (.float (0 : UInt32)) := D26 (Or.inr (ww hw 96 rfl)) (ty := .float) (by decide)
  have F_putMode_b26 : Fld Z h26 b26 sC1 "putMode" "I" (.int 0) := D26 (Or.inl (ww hw 98 rfl)) (ty := .int) (by decide)
  have F_accessOrder_b26 : Fld Z h26 b26 sC1 "accessOrder" "Z" (.int 0) := D26 (Or.inr (ww hw 100 rfl)) (ty := .boolean) (by decide)
  have F_table_b26 : Fld Z h26 b26 sC0 "table" "[Ljava/util/HashMap$Node;" .null := D26 (Or.inl (ww hw 155 rfl)) (ty := (.array (.object sC3))) (by decide)
  have F_threshold_b26 : Fld Z h26 b26 sC0 "threshold" "I" (.int 0) := D26 (Or.inl (ww hw 162 rfl)) (ty := .int) (by decide)
  have F_tail_b26 : Fld Z h26 b26 sC1 "tail" "Ljava/util/LinkedHashMap$Entry;" .null := D26 (Or.inl (ww hw 199 rfl)) (ty := (.object sC4)) (by decide)
  have F_head_b26 : Fld Z h26 b26 sC1 "head" "Ljava/util/LinkedHashMap$Entry;" .null := D26 (Or.inl (ww hw 201 rfl)) (ty := (.object sC4)) (by decide)
  have F_modCount_b26 : Fld Z h26 b26 sC0 "modCount" "I" (.int 0) := D26 (Or.inl (ww hw 203 rfl)) (ty := .int) (by decide)
  have F_size_b26 : Fld Z h26 b26 sC0 "size" "I" (.int 0) := D26 (Or.inl (ww hw 205 rfl)) (ty := .int) (by decide)
  have fc27 := ((((F_values_o0.ext E1).ext E3).ext E12).ext E26)
  obtain ⟨T28, X28, e28, st28⟩ := getF X26 hx hZ12 hown12 (host := "") (Or.inl (ww hw 20 rfl)) Via.refl e26 fc27 (g := (mkF m 44 #[va o0, va o1, va o3, uu] [(.ref o0), (.ref b26), (.ref b26)])) rfl rfl (hb hby d10_44)
  obtain ⟨_, _, ⟨T29, L29, k29, n29⟩, -, X29, ⟨Lc29, hQ29, l29, y29, z29⟩, st29⟩ := X28.specialBack hx (y := (⟨sC1, "<init>", "(Ljava/util/Map;)V"⟩ : MethodName)) rfl hown12 (mvT hZ12 (ww hw 78 rfl)) (mvT hZ12 (ww hw 79 rfl)) (mvT hZ12 (ww hw 80 rfl)) (by decide) (backOf (W := 1) (rm14_0 l Z a0 hw [] w_EMPTY_MAP w_cache w_mir0 w_mir1 z_COMPACT_STRINGS b26 h26 n0 O26 S A26 F_loadFactor_b26 F_modCount_b26 F_size_b26 F_table_b26 F_threshold_b26 F_accessOrder_b26 F_head_b26 F_putMode_b26 F_tail_b26 g_b26) hZ12 (ww hw 80 rfl) (ww hw 77 rfl) (by decide) (by decide)) (g := (mkF m 47 #[va o0, va o1, va o3, uu] [(.ref w_EMPTY_MAP), (.ref b26), (.ref b26)])) rfl (by rw [hml]; rfl) (Steps.refl _) (a := b26) (argsL := [(.ref w_EMPTY_MAP)]) (rest := [(.ref b26)]) (lenOf pd_15 rfl) rfl (by show 2 * 0 + _ ≤ _; exact Nat.le_of_eq rfl) (hb hby d10_47) (fun _ _ => ⟨rfl, e28, (by decide : 7 + 0 ≤ _), (by decide : 68 + 0 ≤ _)⟩)
  dsimp only [Pt.U, Pt.locs, Pt.cells, Pt.slots] at X29 l29 y29 z29 st29 hQ29
  subst l29 y29 z29
  have fc30 := (fc21.ext E26)
  have fc31 := (fc20.ext E26)
  have fc32 := (fc18.ext E26)
  have fc33 := (fc22.ext E26)
  have fc34 := (fc23.ext E26)
  have fc35 := (fc24.ext E26)
  have fc36 := (fc25.ext E26)
  have fc37 := (Ea12.ext E26)
  have fc38 := (Vb12.ext E26)
  obtain ⟨rfl, Nq29, Kc29, P0_29, P1_29, P2_29, P3_29, P4_29, P5_29, P6_29, P7_29, P8_29, P9_29⟩ := hQ29
  have N29 := Fr.app N19 Nq29
  have O29 := O26.keep Kc29 (allS g_b26 all0)
  have K29 : Keep h0 T29.heap [o1] := K26.trans Kc29 (allS (Or.inr sz_b26) all0)
  have fc39 := (fc31.keep Kc29)
  have fc40 := ((fc16.ext E26).keep Kc29 (ninS ne_o1_b26 nin0))
  have fc41 := (((((F_hash_o1.ext E1).ext E3).ext E12).ext E26).keep Kc29 (ninS ne_o1_b26 nin0))
  have fc42 := (((((F_hashIsZero_o1.ext E1).ext E3).ext E12).ext E26).keep Kc29 (ninS ne_o1_b26 nin0))
  have fc43 := ((fc17.ext E26).keep Kc29 (ninS ne_o1_b26 nin0))
  have fc44 := (fc32.keep Kc29 (ninS ne_o2_b26 nin0))
  obtain ⟨cq45, kq45, q45a, q45b, q45c⟩ := isOf hZ12 rfl P0_29
  obtain ⟨_, _, ⟨T45, L45, k45, n45⟩, -, X45, ⟨Lc45, hQ45, l45, y45, z45⟩, st45⟩ := X29.interfaceBack hx (xi := (⟨sC6, "put", "(Ljava/lang/Object;Ljava/lang/Object;)Ljava/lang/Object;"⟩ : MethodName)) (y := My19) hown12 (mvT hZ12 (ww hw 119 rfl)) (mvT hZ12 (ww hw 120 rfl)) (mvT hZ12 (ww hw 121 rfl)) (mvT hZ12 (ww hw 122 rfl)) (mvT hZ12 (ww hw 123 rfl)) (mvT hZ12 (ww hw 124 rfl)) (mvT hZ12 (ww hw 125 rfl)) (mvT hZ12 (ww hw 126 rfl)) (by decide) (backOf (W := 0) (rm19_0 l Z a0 hw [] w_EMPTY_MAP w_cache w_mir0 w_mir1 z_COMPACT_STRINGS b26 o1 o2 o3 kk_o2 p0 T29.heap n0 O29 S P0_29 P1_29 P2_29 P3_29 P4_29 P5_29 P6_29 P7_29 P8_29 P9_29 fc39 fc40 fc41 fc42 fc43 fc44 (Ne.symm ne_o1_b26) (Ne.symm ne_o2_b26) ne_o1_o2 g_b26 g_o1 hc0) hZ12 (ww hw 127 rfl) (ww hw 85 rfl) (by decide) (by decide)) q45a q45b q45c (g := (mkF m 54 #[va o0, va o1, va o3, va b26] [(.ref o3), (.ref o1), (.ref b26)])) rfl (by rw [hml]; rfl) (Steps.refl _) (argsL := [(.ref o1), (.ref o3)]) (rest := []) (lenOf pd_26 rfl) rfl (by show 2 * 0 + _ ≤ _; exact Nat.le_of_eq rfl) (hb hby d10_54) (fun _ _ => ⟨rfl, rfl, (by decide : 7 + 2 ≤ _), (by decide : 68 + 22 ≤ _)⟩)
  dsimp only [Pt.U, Pt.locs, Pt.cells, Pt.slots] at X45 l45 y45 z45 st45 hQ45
  subst l45 y45 z45
  have fc46 := (fc30.keep Kc29)
  have fc47 := (fc33.keep Kc29)
  have fc48 := (fc34.keep Kc29 (ninS ne_b1_b26 nin0))
  have fc49 := (fc35.keep Kc29)
  have fc50 := (fc36.keep Kc29 (ninS ne_b3_b26 nin0))
  have fc51 := (fc37.keep Kc29)
  have fc52 := (fc38.keep Kc29 (ninS ne_b12_b26 nin0))
  obtain ⟨b5_2_13_45, b1_7_13_45, rfl, Nq45, Kc45, P0_45, P1_45, P2_45, P3_45, P4_45, P5_45, P6_45, P7_45, P8_45, P9_45, P10_45, P11_45, P12_45, P13_45, P14_45, P15_45, P16_45, P17_45, P18_45, P19_45, P20_45, P21_45, P22_45⟩ := hQ45
  have N45 := Fr.app N29 Nq45
  have ne_o0_b5_2_13_45 : o0 ≠ b5_2_13_45 := Nat.ne_of_lt (Nat.lt_of_lt_of_le fc46.lt P20_45)
  have ne_o1_b5_2_13_45 : o1 ≠ b5_2_13_45 := Nat.ne_of_lt (Nat.lt_of_lt_of_le fc39.lt P20_45)
  have ne_o2_b5_2_13_45 : o2 ≠ b5_2_13_45 := Nat.ne_of_lt (Nat.lt_of_lt_of_le fc44.lt P20_45)
  have ne_a1_b5_2_13_45 : a1 ≠ b5_2_13_45 := Nat.ne_of_lt (Nat.lt_of_lt_of_le fc47.lt P20_45)
  have ne_b1_b5_2_13_45 : b1 ≠ b5_2_13_45 := Nat.ne_of_lt (Nat.lt_of_lt_of_le fc48.lt P20_45)
  have ne_a3_b5_2_13_45 : a3 ≠ b5_2_13_45 := Nat.ne_of_lt (Nat.lt_of_lt_of_le fc49.lt P20_45)
  have ne_b3_b5_2_13_45 : b3 ≠ b5_2_13_45 := Nat.ne_of_lt (Nat.lt_of_lt_of_le fc50.lt P20_45)
  have ne_a12_b5_2_13_45 : a12 ≠ b5_2_13_45 := Nat.ne_of_lt (Nat.lt_of_lt_of_le fc51.lt P20_45)
  have ne_b12_b5_2_13_45 : b12 ≠ b5_2_13_45 := Nat.ne_of_lt (Nat.lt_of_lt_of_le fc52.lt P20_45)
  have ne_b26_b5_2_13_45 : b26 ≠ b5_2_13_45 := Nat.ne_of_lt (Nat.lt_of_lt_of_le P0_29.lt P20_45)
  have ne_o0_b1_7_13_45 : o0 ≠ b1_7_13_45 := Nat.ne_of_lt (Nat.lt_of_lt_of_le fc46.lt P21_45)
  have ne_o1_b1_7_13_45 : o1 ≠ b1_7_13_45 := Nat.ne_of_lt (Nat.lt_of_lt_of_le fc39.lt P21_45)
  have ne_o2_b1_7_13_45 : o2 ≠ b1_7_13_45 := Nat.ne_of_lt (Nat.lt_of_lt_of_le fc44.lt P21_45)
  have ne_a1_b1_7_13_45 : a1 ≠ b1_7_13_45 := Nat.ne_of_lt (Nat.lt_of_lt_of_le fc47.lt P21_45)
  have ne_b1_b1_7_13_45 : b1 ≠ b1_7_13_45 := Nat.ne_of_lt (Nat.lt_of_lt_of_le fc48.lt P21_45)
  have ne_a3_b1_7_13_45 : a3 ≠ b1_7_13_45 := Nat.ne_of_lt (Nat.lt_of_lt_of_le fc49.lt P21_45)
  have ne_b3_b1_7_13_45 : b3 ≠ b1_7_13_45 := Nat.ne_of_lt (Nat.lt_of_lt_of_le fc50.lt P21_45)
  have ne_a12_b1_7_13_45 : a12 ≠ b1_7_13_45 := Nat.ne_of_lt (Nat.lt_of_lt_of_le fc51.lt P21_45)
  have ne_b12_b1_7_13_45 : b12 ≠ b1_7_13_45 := Nat.ne_of_lt (Nat.lt_of_lt_of_le fc52.lt P21_45)
  have ne_b26_b1_7_13_45 : b26 ≠ b1_7_13_45 := Nat.ne_of_lt (Nat.lt_of_lt_of_le P0_29.lt P21_45)
  have g_b5_2_13_45 : n0 ≤ b5_2_13_45 := Nat.le_trans (own_old O29) P20_45
  have sz_b5_2_13_45 : h0.size ≤ b5_2_13_45 := Nat.le_trans K29.1 P20_45
  have g_b1_7_13_45 : n0 ≤ b1_7_13_45 := Nat.le_trans (own_old O29) P21_45
  have sz_b1_7_13_45 : h0.size ≤ b1_7_13_45 := Nat.le_trans K29.1 P21_45
  have O45 := O29.keep Kc45 (allS g_o1 (allS g_b26 all0))
  have K45 : Keep h0 T45.heap [o1] := K29.trans Kc45 (allS (Or.inl (List.mem_of_getElem? (i := 0) rfl)) (allS (Or.inr sz_b26) all0))
  have fc53 := (fc46.keep Kc45)
  have fc54 := (fc44.keep Kc45 (ninS (Ne.symm ne_o1_o2) (ninS ne_o2_b26 nin0)))
  have fc55 := (fc47.keep Kc45)
  have fc56 := (fc48.keep Kc45 (ninS (Ne.symm (hD1 _ sf1_o1).2) (ninS ne_b1_b26 nin0)))
  have fc57 := (fc49.keep Kc45)
  have fc58 := (fc50.keep Kc45 (ninS (Ne.symm (hD3 _ sf3_o1).2) (ninS ne_b3_b26 nin0)))
  have fc59 := (fc51.keep Kc45)
  have fc60 := (fc52.keep Kc45 (ninS (Ne.symm (hD12 _ sf12_o1).2) (ninS ne_b12_b26 nin0)))
  obtain ⟨T61, h61, X61, e61, E61, A61, D61, -, st61⟩ := newO X45 hx hZ12 hown12 (ww hw 4 rfl) (ww hw 5 rfl) (ww hw 2 rfl) rfl (g := (mkF m 60 #[va o0, va o1, va o3, va b26] [])) rfl (hb hby d10_60) (by decide) (by decide)
  obtain ⟨b61, qs61⟩ : ∃ z, z = T45.heap.size := ⟨_, rfl⟩
  rw [← qs61] at A61 D61 st61
  have ne_o0_b61 : o0 ≠ b61 := Nat.ne_of_lt (Nat.lt_of_lt_of_le fc53.lt (Nat.le_of_eq qs61.symm))
  have ne_o1_b61 : o1 ≠ b61 := Nat.ne_of_lt (Nat.lt_of_lt_of_le P10_45.lt (Nat.le_of_eq qs61.symm))
  have ne_o2_b61 : o2 ≠ b61 := Nat.ne_of_lt (Nat.lt_of_lt_of_le fc54.lt (Nat.le_of_eq qs61.symm))
  have ne_a1_b61 : a1 ≠ b61 := Nat.ne_of_lt (Nat.lt_of_lt_of_le fc55.lt (Nat.le_of_eq qs61.symm))
  have ne_b1_b61 : b1 ≠ b61 := Nat.ne_of_lt (Nat.lt_of_lt_of_le fc56.lt (Nat.le_of_eq qs61.symm))
  have ne_a3_b61 : a3 ≠ b61 := Nat.ne_of_lt (Nat.lt_of_lt_of_le fc57.lt (Nat.le_of_eq qs61.symm))
  have ne_b3_b61 : b3 ≠ b61 := Nat.ne_of_lt (Nat.lt_of_lt_of_le fc58.lt (Nat.le_of_eq qs61.symm))
  have ne_a12_b61 : a12 ≠ b61 := Nat.ne_of_lt (Nat.lt_of_lt_of_le fc59.lt (Nat.le_of_eq qs61.symm))
  have ne_b12_b61 : b12 ≠ b61 := Nat.ne_of_lt (Nat.lt_of_lt_of_le fc60.lt (Nat.le_of_eq qs61.symm))
  have ne_b26_b61 : b26 ≠ b61 := Nat.ne_of_lt (Nat.lt_of_lt_of_le P0_45.lt (Nat.le_of_eq qs61.symm))
  have ne_b1_7_13_45_b61 : b1_7_13_45 ≠ b61 := Nat.ne_of_lt (Nat.lt_of_lt_of_le P15_45.lt (Nat.le_of_eq qs61.symm))
  have g_b61 : n0 ≤ b61 := Nat.le_trans (own_old O45) (Nat.le_of_eq qs61.symm)
  have sz_b61 : h0.size ≤ b61 := Nat.le_trans K45.1 (Nat.le_of_eq qs61.symm)
  have O61 := O45.ext E61
  have K61 : Keep h0 h61 [o1] := K45.ext E61
  have F_errorMessage_b61 : Fld Z h61 b61 sC7 "errorMessage" "Ljava/lang/String;" .null := D61 (Or.inr (ww hw 19 rfl)) (ty := (.object sC2)) (by decide)
  have F_values_b61 : Fld Z h61 b61 sC7 "values" "Ljava/util/Map;" .null := D61 (Or.inr (ww hw 21 rfl)) (ty := (.object sC6)) (by decide)
  have fc62 := (((((((F_errorMessage_o0.ext E1).ext E3).ext E12).ext E26).keep Kc29 (ninS ne_o0_b26 nin0)).keep Kc45 (ninS ne_o0_o1 (ninS ne_o0_b26 nin0))).ext E61)
  obtain ⟨T63, X63, e63, st63⟩ := getF X61 hx hZ12 hown12 (host := "") (Or.inl (ww hw 18 rfl)) Via.refl e61 fc62 (g := (mkF m 65 #[va o0, va o1, va o3, va b26] [(.ref o0), (.ref b61), (.ref b61)])) rfl rfl (hb hby d10_65)
  have fc64 := (P0_45.ext E61)
  have fc65 := (P15_45.ext E61)
  have fc66 := (P10_45.ext E61)
  have fc67 := (fc54.ext E61)
  obtain ⟨_, _, ⟨T68, L68, k68, n68⟩, -, X68, ⟨Lc68, hQ68, l68, y68, z68⟩, st68⟩ := Jvm.LawKit.callS X63 hx (y := My32) hown12 (mvT hZ12 (ww hw 217 rfl)) (mvT hZ12 (ww hw 218 rfl)) (mvT hZ12 (ww hw 219 rfl)) (mvT hZ12 (ww hw 220 rfl)) (by decide) (backOf (W := 3) (bm1 l Z a0 hw [] w_EMPTY_MAP w_cache w_mir0 w_mir1 z_COMPACT_STRINGS b26 b5_2_13_45 b1_7_13_45 o1 o2 o3 kk_o2 ((p0 &&& (255 : Int32)) ^^^ (((p0 &&& (255 : Int32)).toUInt32 >>> ((16 : Int32) &&& 31).toUInt32).toInt32)) p0 h61 n0 O61 S fc64 fc65 fc66 fc67) hZ12 (ww hw 220 rfl) (ww hw 219 rfl) (by decide) (by decide)) (g := (mkF m 69 #[va o0, va o1, va o3, va b26] [(.ref b26), .null, (.ref b61), (.ref b61)])) rfl (by rw [hml]; rfl) (argsL := [(.ref b26)]) (rest := [.null, (.ref b61), (.ref b61)]) (lenOf pd_27 rfl) rfl (by show 2 * 0 + _ ≤ _; exact Nat.le_of_eq rfl) (hb hby d10_69) (fun _ _ => ⟨rfl, e63, (by decide : 10 + 1 ≤ _), (by decide : 92 + 4 ≤ _)⟩)
  dsimp only [Pt.U, Pt.locs, Pt.cells, Pt.slots] at X68 l68 y68 z68 st68 hQ68
  subst l68 y68 z68
  have fc69 := (fc53.ext E61)
  have fc70 := (fc55.ext E61)
  have fc71 := (fc56.ext E61)
  have fc72 := (fc57.ext E61)
  have fc73 := (fc58.ext E61)
  have fc74 := (fc59.ext E61)
  have fc75 := (fc60.ext E61)
  obtain ⟨r_68, rfl, Nq68, Kc68⟩ := hQ68
  have N68 := Fr.app N45 Nq68
  have O68 := O61.keep Kc68 all0
  have K68 : Keep h0 T68.heap [o1] := K61.trans Kc68 all0
  have fc76 := (A61.keep Kc68)
  have fc77 := (F_errorMessage_b61.keep Kc68 nin0)
  have fc78 := (F_values_b61.keep Kc68 nin0)
  obtain ⟨_, _, ⟨T79, L79, k79, n79⟩, -, X79, ⟨Lc79, hQ79, l79, y79, z79⟩, st79⟩ := X68.specialBack hx (y := My3) rfl hown12 (mvT hZ12 (ww hw 12 rfl)) (mvT hZ12 (ww hw 13 rfl)) (mvT hZ12 (ww hw 14 rfl)) (by decide) (backOf (W := 1) (rm3_1 l Z a0 hw [] w_EMPTY_MAP w_cache w_mir0 w_mir1 z_COMPACT_STRINGS b61 r_68 T68.heap n0 O68 S fc76 fc77 fc78 g_b61) hZ12 (ww hw 14 rfl) (ww hw 2 rfl) (by decide) (by decide)) (g := (mkF m 72 #[va o0, va o1, va o3, va b26] [(.ref r_68), .null, (.ref b61), (.ref b61)])) rfl (by rw [hml]; rfl) (Steps.refl _) (a := b61) (argsL := [.null, (.ref r_68)]) (rest := [(.ref b61)]) (lenOf pd_1 rfl) rfl (by show 2 * 0 + _ ≤ _; exact Nat.le_of_eq rfl) (hb hby d10_72) (fun _ _ => ⟨rfl, rfl, (by decide : 11 + 0 ≤ _), (by decide : 96 + 0 ≤ _)⟩)
  dsimp only [Pt.U, Pt.locs, Pt.cells, Pt.slots] at X79 l79 y79 z79 st79 hQ79
  subst l79 y79 z79
  have fc80 := (fc69.keep Kc68)
  have fc81 := (fc66.keep Kc68)
  have fc82 := (fc67.keep Kc68 nin0)
  have fc83 := (fc70.keep Kc68)
  have fc84 := (fc71.keep Kc68 nin0)
  have fc85 := (fc72.keep Kc68)
  have fc86 := (fc73.keep Kc68 nin0)
  have fc87 := (fc74.keep Kc68)
  have fc88 := (fc75.keep Kc68 nin0)
  have fc89 := (fc64.keep Kc68)
  have fc90 := (fc65.keep Kc68)
  obtain ⟨rfl, Nq79, Kc79, P0_79, P1_79, P2_79⟩ := hQ79
  have N79 := Fr.app N68 Nq79
  have O79 := O68.keep Kc79 (allS g_b61 all0)
  have K79 : Keep h0 T79.heap [o1] := K68.trans Kc79 (allS (Or.inr sz_b61) all0)
  obtain ⟨fs, hr, hrun, hended, hRE⟩ := X79.leaveW (s := s) hS12 (Nat.le_trans (Nat.le_trans (Nat.le_trans (Nat.le_trans (Nat.le_trans (Nat.le_trans hk12 E26.1) Kc29.1) Kc45.1) E61.1) Kc68.1) Kc79.1) (v := (some (.ref b61))) (fun h => by rw [hrt] at h; cases h)
  have fc91 := (fc81.keep Kc79)
  have fc92 := (((P11_45.ext E61).keep Kc68 nin0).keep Kc79 (ninS ne_o1_b61 nin0))
  have fc93 := (((P12_45.ext E61).keep Kc68 nin0).keep Kc79 (ninS ne_o1_b61 nin0))
  have fc94 := (((P13_45.ext E61).keep Kc68 nin0).keep Kc79 (ninS ne_o1_b61 nin0))
  have fc95 := (((P14_45.ext E61).keep Kc68 nin0).keep Kc79 (ninS ne_o1_b61 nin0))
  refine ⟨_, _, ?_, hrun, hended, _, _, rfl, ?_, hRE.1, hRE.2.1, hRE.2.2.1, hRE.2.2.2.mono (by decide) (by decide)⟩
  · show Steps p.tables e below (s₁.setTop (mkF m 0 #[va o0, va o1, va o3, uu] [])) _
    refine XS.aloadN X0.here hx rfl (hb hby d10_0) rfl rfl ?_
    refine st1 _ ?_
    refine st2 _ ?_
    refine XS.pop X2.here hx rfl (hb hby d10_6) rfl rfl ?_
    refine XS.aloadN X2.here hx rfl (hb hby d10_7) rfl rfl ?_
    refine st3 _ ?_
    refine st10.trans ?_
    refine XS.ifNo X10.here hx rfl (hb hby d10_13) rfl ((if0 _ _).trans (teq (by decide : (0 : Int32) = (0 : Int32))).2) ?_
    show Steps p.tables e below (T10.setTop (mkF m 16 #[va o0, va o1, va o3, uu] [])) _
    refine XS.aloadN X10.here hx rfl (hb hby d10_16) rfl rfl ?_
    refine st12 _ ?_
    refine st19.trans ?_
    refine XS.ifYes X19.here hx rfl (pc0 := 22) (pc' := 39) rfl (hb hby d10_22) rfl ((if0 _ _).trans (teq (by decide : (0 : Int32) = (0 : Int32))).1) (by decide) (by decide) ?_
    refine st26 _ ?_
    refine XS.dup X26.here hx rfl (hb hby d10_42) rfl rfl ?_
    refine XS.aloadN X26.here hx rfl (hb hby d10_43) rfl rfl ?_
    refine st28 _ ?_
    show Steps p.tables e below (T28.setTop (mkF m 47 #[va o0, va o1, va o3, uu] [(.ref w_EMPTY_MAP), (.ref b26), (.ref b26)])) _
    refine st29.trans ?_
    refine XS.astoreN X29.here hx rfl (hb hby d10_50) rfl rfl (l' := #[va o0, va o1, va o3, va b26]) rfl ?_
    refine XS.aloadN X29.here hx rfl (hb hby d10_51) rfl rfl ?_
    refine XS.aloadN X29.here hx rfl (hb hby d10_52) rfl rfl ?_
    refine XS.aloadN X29.here hx rfl (hb hby d10_53) rfl rfl ?_
    refine st45.trans ?_
    refine XS.pop X45.here hx rfl (hb hby d10_59) rfl rfl ?_
    refine st61 _ ?_
    show Steps p.tables e below (T61.setTop (mkF m 63 #[va o0, va o1, va o3, va b26] [(.ref b61)])) _
    refine XS.dup X61.here hx rfl (hb hby d10_63) rfl rfl ?_
    refine XS.aloadN X61.here hx rfl (hb hby d10_64) rfl rfl ?_
    refine st63 _ ?_
    refine XS.aloadN X63.here hx rfl (hb hby d10_68) rfl rfl ?_
    refine st68 _ ?_
    refine st79.trans ?_
    exact retOut X79 hx (t := (.object sC7)) (i := .areturn) hrt rfl (Or.inr (Or.inr (Or.inr (Or.inr ⟨rfl, rfl, rfl⟩)))) (hb hby d10_75) hr
  · show Q10_0 Z w_EMPTY_MAP w_cache w_mir0 w_mir1 z_COMPACT_STRINGS o0 o1 o2 o3 kk_o2 p0 h0 n0 (some (.ref b61)) T79.heap _
    exact (⟨b61, r_68, rfl, N79, K79, fc91, fc92, fc93, fc94, fc95, P0_79, P1_79, P2_79, sz_b61⟩)
theorem pd_28 : parseMethodDescriptor "(Ljava/lang/String;Ljava/lang/Object;)Lcom/example/bowline/bowline/sdk/TaskResult;" = some ⟨[(.object sC2), (.object sC5)], some (.object sC7)⟩ := by decide +kernel
theorem d34_0 : decode prog_19_method_5_code 0 = .ok (.aload_n 0, 1) := by decide +kernel
theorem d34_1 : decode prog_19_method_5_code 1 = .ok (.getfield 7, 3) := by decide +kernel
theorem d34_4 : decode prog_19_method_5_code 4 = .ok (.ifnonnull 7, 3) := by decide +kernel
theorem d34_7 : decode prog_19_method_5_code 7 = .ok (.iconst 1, 1) := by decide +kernel
theorem d34_8 : decode prog_19_method_5_code 8 = .ok (.goto 4, 3) := by decide +kernel
theorem d34_12 : decode prog_19_method_5_code 12 = .ok (.ireturn, 1) := by decide +kernel
def Q34_0 (Z : State) (w_EMPTY_MAP w_cache w_mir0 w_mir1 : Addr) (z_COMPACT_STRINGS : Int32) (o0 : Addr) (h0 : Heap) (n0 : Nat) (v : Option Value) (h : Heap) (L : List Loc) : Prop := v = (some (.int 1)) ∧ Fr n0 L ∧ h = h0
theorem rm34_0 (l : Launch) (Z : State) (a0 : Array Value) (hw : HW Z a0) (ws : List Jvm.Cond) (w_EMPTY_MAP w_cache w_mir0 w_mir1 : Addr) (z_COMPACT_STRINGS : Int32) (o0 : Addr) (h0 : Heap) (n0 : Nat) (O0 : Old Z n0 h0) (S : SF Z w_EMPTY_MAP w_cache w_mir0 w_mir1 z_COMPACT_STRINGS) (F_errorMessage_o0 : Fld Z h0 o0 sC7 "errorMessage" "Ljava/lang/String;" .null) :
    Pay l Z My34 ws prog_19_method_5_code 1 (some .boolean) #[(.ref o0)] h0 ({ frames := 0, cells := 0, slots := 0, locals := 0 } : Room) (Q34_0 Z w_EMPTY_MAP w_cache w_mir0 w_mir1 z_COMPACT_STRINGS o0 h0 n0) := by
  refine own_body (plainFor_of_name pn_1) (L0 := #[va o0]) (fun _ => by first | rfl | (simp [entryFrame, mkF, argsToLocals, Value.category]; done)) ?_
  intro p e s m below meth c s₁ hrt hlk hx hby hml hZ hown0 hnm X0 e0
  have hown : s.vm.findClass sC7 = some m.cls := hown0
  have N0 := Fr.nil n0
  have K0 : Keep h0 h0 [] := Keep.refl _ _
  obtain ⟨T1, X1, e1, st1⟩ := getF X0 hx hZ hown (host := "") (Or.inl (ww hw 18 rfl)) Via.refl e0 F_errorMessage_o0 (g := (mkF m 1 #[va o0] [(.ref o0)])) rfl rfl (hb hby d34_1)
  obtain ⟨fs, hr, hrun, hended, hW, hsame⟩ := X1.leave (v := (some (.int 1))) (fun h => by rw [hrt] at h; cases h)
  refine ⟨_, _, ?_, hrun, hended, _, _, rfl, ?_, ⟨_, rfl⟩, hW, hsame.mono (by decide) (by decide)⟩
  · show Steps p.tables e below (s₁.setTop (mkF m 0 #[va o0] [])) _
    refine XS.aloadN X0.here hx rfl (hb hby d34_0) rfl rfl ?_
    refine st1 _ ?_
    refine XS.ifnonnullNo X1.here hx rfl (hb hby d34_4) rfl ?_
    refine XS.iconst X1.here hx rfl (hb hby d34_7) ?_
    refine XS.goto X1.here hx rfl (pc0 := 8) (pc' := 12) rfl (hb hby d34_8) (by decide) (by decide) ?_
    exact retN X1 hx (t := .boolean) hrt (by simp) (hb hby d34_12) hr
  · show Q34_0 Z w_EMPTY_MAP w_cache w_mir0 w_mir1 z_COMPACT_STRINGS o0 h0 n0 (some (.int 1)) T1.heap _
    exact (⟨rfl, N0, e1⟩)
theorem d35_0 : decode prog_19_method_6_code 0 = .ok (.aload_n 0, 1) := by decide +kernel
theorem d35_1 : decode prog_19_method_6_code 1 = .ok (.getfield 7, 3) := by decide +kernel
theorem d35_4 : decode prog_19_method_6_code 4 = .ok (.areturn, 1) := by decide +kernel
def Q35_0 (Z : State) (w_EMPTY_MAP w_cache w_mir0 w_mir1 : Addr) (z_COMPACT_STRINGS : Int32) (o0 : Addr) (h0 : Heap) (n0 : Nat) (v : Option Value) (h : Heap) (L : List Loc) : Prop := v = (some .null) ∧ Fr n0 L ∧ h = h0
theorem rm35_0 (l : Launch) (Z : State) (a0 : Array Value) (hw : HW Z a0) (ws : List Jvm.Cond) (w_EMPTY_MAP w_cache w_mir0 w_mir1 : Addr) (z_COMPACT_STRINGS : Int32) (o0 : Addr) (h0 : Heap) (n0 : Nat) (O0 : Old Z n0 h0) (S : SF Z w_EMPTY_MAP w_cache w_mir0 w_mir1 z_COMPACT_STRINGS) (F_errorMessage_o0 : Fld Z h0 o0 sC7 "errorMessage" "Ljava/lang/String;" .null) :
    Pay l Z My35 ws prog_19_method_6_code 1 (some (.object sC2)) #[(.ref o0)] h0 ({ frames := 0, cells := 0, slots := 0, locals := 0 } : Room) (Q35_0 Z w_EMPTY_MAP w_cache w_mir0 w_mir1 z_COMPACT_STRINGS o0 h0 n0) := by
  refine own_body (plainFor_of_name pn_1) (L0 := #[va o0]) (fun _ => by first | rfl | (simp [entryFrame, mkF, argsToLocals, Value.category]; done)) ?_
  intro p e s m below meth c s₁ hrt hlk hx hby hml hZ hown0 hnm X0 e0
  have hown : s.vm.findClass sC7 = some m.cls := hown0
  have N0 := Fr.nil n0
  have K0 : Keep h0 h0 [] := Keep.refl _ _
  obtain ⟨T1, X1, e1, st1⟩ := getF X0 hx hZ hown (host := "") (Or.inl (ww hw 18 rfl)) Via.refl e0 F_errorMessage_o0 (g := (mkF m 1 #[va o0] [(.ref o0)])) rfl rfl (hb hby d35_1)
  obtain ⟨fs, hr, hrun, hended, hW, hsame⟩ := X1.leave (v := (some .null)) (fun h => by rw [hrt] at h; cases h)
  refine ⟨_, _, ?_, hrun, hended, _, _, rfl, ?_, ⟨_, rfl⟩, hW, hsame.mono (by decide) (by decide)⟩
  · show Steps p.tables e below (s₁.setTop (mkF m 0 #[va o0] [])) _
    refine XS.aloadN X0.here hx rfl (hb hby d35_0) rfl rfl ?_
    refine st1 _ ?_
    exact retOut X1 hx (t := (.object sC2)) (i := .areturn) hrt rfl (Or.inr (Or.inr (Or.inr (Or.inr ⟨rfl, rfl, rfl⟩)))) (hb hby d35_4) hr
  · show Q35_0 Z w_EMPTY_MAP w_cache w_mir0 w_mir1 z_COMPACT_STRINGS o0 h0 n0 (some .null) T1.heap _
    exact (⟨rfl, N0, e1⟩)
theorem pd_29 : parseMethodDescriptor "()Ljava/lang/String;" = some ⟨[], some (.object sC2)⟩ := by decide +kernel
def Q34_1 (Z : State) (w_EMPTY_MAP w_cache w_mir0 w_mir1 : Addr) (z_COMPACT_STRINGS : Int32) (o0 : Addr) (o1 : Addr) (h0 : Heap) (n0 : Nat) (v : Option Value) (h : Heap) (L : List Loc) : Prop := v = (some (.int 1)) ∧ Fr n0 L ∧ h = h0
theorem rm34_1 (l : Launch) (Z : State) (a0 : Array Value) (hw : HW Z a0) (ws : List Jvm.Cond) (w_EMPTY_MAP w_cache w_mir0 w_mir1 : Addr) (z_COMPACT_STRINGS : Int32) (o0 : Addr) (o1 : Addr) (h0 : Heap) (n0 : Nat) (O0 : Old Z n0 h0) (S : SF Z w_EMPTY_MAP w_cache w_mir0 w_mir1 z_COMPACT_STRINGS) (F_errorMessage_o0 : Fld Z h0 o0 sC7 "errorMessage" "Ljava/lang/String;" .null) :
    Pay l Z My34 ws prog_19_method_5_code 1 (some .boolean) #[(.ref o0)] h0 ({ frames := 0, cells := 0, slots := 0, locals := 0 } : Room) (Q34_1 Z w_EMPTY_MAP w_cache w_mir0 w_mir1 z_COMPACT_STRINGS o0 o1 h0 n0) := by
  refine own_body (plainFor_of_name pn_1) (L0 := #[va o0]) (fun _ => by first | rfl | (simp [entryFrame, mkF, argsToLocals, Value.category]; done)) ?_
  intro p e s m below meth c s₁ hrt hlk hx hby hml hZ hown0 hnm X0 e0
  have hown : s.vm.findClass sC7 = some m.cls := hown0
  have N0 := Fr.nil n0
  have K0 : Keep h0 h0 [] := Keep.refl _ _
  obtain ⟨T1, X1, e1, st1⟩ := getF X0 hx hZ hown (host := "") (Or.inl (ww hw 18 rfl)) Via.refl e0 F_errorMessage_o0 (g := (mkF m 1 #[va o0] [(.ref o0)])) rfl rfl (hb hby d34_1)
  obtain ⟨fs, hr, hrun, hended, hW, hsame⟩ := X1.leave (v := (some (.int 1))) (fun h => by rw [hrt] at h; cases h)
  refine ⟨_, _, ?_, hrun, hended, _, _, rfl, ?_, ⟨_, rfl⟩, hW, hsame.mono (by decide) (by decide)⟩
  · show Steps p.tables e below (s₁.setTop (mkF m 0 #[va o0] [])) _
    refine XS.aloadN X0.here hx rfl (hb hby d34_0) rfl rfl ?_
    refine st1 _ ?_
    refine XS.ifnonnullNo X1.here hx rfl (hb hby d34_4) rfl ?_
    refine XS.iconst X1.here hx rfl (hb hby d34_7) ?_
    refine XS.goto X1.here hx rfl (pc0 := 8) (pc' := 12) rfl (hb hby d34_8) (by decide) (by decide) ?_
    exact retN X1 hx (t := .boolean) hrt (by simp) (hb hby d34_12) hr
  · show Q34_1 Z w_EMPTY_MAP w_cache w_mir0 w_mir1 z_COMPACT_STRINGS o0 o1 h0 n0 (some (.int 1)) T1.heap _
    exact (⟨rfl, N0, e1⟩)
def Q35_1 (Z : State) (w_EMPTY_MAP w_cache w_mir0 w_mir1 : Addr) (z_COMPACT_STRINGS : Int32) (o0 : Addr) (o1 : Addr) (h0 : Heap) (n0 : Nat) (v : Option Value) (h : Heap) (L : List Loc) : Prop := v = (some .null) ∧ Fr n0 L ∧ h = h0
theorem rm35_1 (l : Launch) (Z : State) (a0 : Array Value) (hw : HW Z a0) (ws : List Jvm.Cond) (w_EMPTY_MAP w_cache w_mir0 w_mir1 : Addr) (z_COMPACT_STRINGS : Int32) (o0 : Addr) (o1 : Addr) (h0 : Heap) (n0 : Nat) (O0 : Old Z n0 h0) (S : SF Z w_EMPTY_MAP w_cache w_mir0 w_mir1 z_COMPACT_STRINGS) (F_errorMessage_o0 : Fld Z h0 o0 sC7 "errorMessage" "Ljava/lang/String;" .null) :
    Pay l Z My35 ws prog_19_method_6_code 1 (some (.object sC2)) #[(.ref o0)] h0 ({ frames := 0, cells := 0, slots := 0, locals := 0 } : Room) (Q35_1 Z w_EMPTY_MAP w_cache w_mir0 w_mir1 z_COMPACT_STRINGS o0 o1 h0 n0) := by
  refine own_body (plainFor_of_name pn_1) (L0 := #[va o0]) (fun _ => by first | rfl | (simp [entryFrame, mkF, argsToLocals, Value.category]; done)) ?_
  intro p e s m below meth c s₁ hrt hlk hx hby hml hZ hown0 hnm X0 e0
  have hown : s.vm.findClass sC7 = some m.cls := hown0
  have N0 := Fr.nil n0
  have K0 : Keep h0 h0 [] := Keep.refl _ _
  obtain ⟨T1, X1, e1, st1⟩ := getF X0 hx hZ hown (host := "") (Or.inl (ww hw 18 rfl)) Via.refl e0 F_errorMessage_o0 (g := (mkF m 1 #[va o0] [(.ref o0)])) rfl rfl (hb hby d35_1)
  obtain ⟨fs, hr, hrun, hended, hW, hsame⟩ := X1.leave (v := (some .null)) (fun h => by rw [hrt] at h; cases h)
  refine ⟨_, _, ?_, hrun, hended, _, _, rfl, ?_, ⟨_, rfl⟩, hW, hsame.mono (by decide) (by decide)⟩
  · show Steps p.tables e below (s₁.setTop (mkF m 0 #[va o0] [])) _
    refine XS.aloadN X0.here hx rfl (hb hby d35_0) rfl rfl ?_
    refine st1 _ ?_
    exact retOut X1 hx (t := (.object sC2)) (i := .areturn) hrt rfl (Or.inr (Or.inr (Or.inr (Or.inr ⟨rfl, rfl, rfl⟩)))) (hb hby d35_4) hr
  · show Q35_1 Z w_EMPTY_MAP w_cache w_mir0 w_mir1 z_COMPACT_STRINGS o0 o1 h0 n0 (some .null) T1.heap _
    exact (⟨rfl, N0, e1⟩)
theorem d21_53 : decode jdk_42_method_78_code 53 = .ok (.aload_n 0, 1) := by decide +kernel
theorem d21_54 : decode jdk_42_method_78_code 54 = .ok (.iload_n 1, 1) := by decide +kernel
theorem d21_55 : decode jdk_42_method_78_code 55 = .ok (.putfield 19, 3) := by decide +kernel
def Q21_1 (Z : State) (w_EMPTY_MAP w_cache w_mir0 w_mir1 : Addr) (z_COMPACT_STRINGS : Int32) (o0 : Addr) (o1 : Addr) (kk_o1 : ClassId) (p0 : Int32) (h0 : Heap) (n0 : Nat) (v : Option Value) (h : Heap) (L : List Loc) : Prop := v = (some (.int (p0 &&& (255 : Int32)))) ∧ Fr n0 L ∧ Keep h0 h [o0] ∧ Exa Z h o0 sC2 ∧ Fld Z h o0 sC2 "coder" "B" (.int 0) ∧ Fld Z h o0 sC2 "hash" "I" (.int (p0 &&& (255 : Int32))) ∧ Fld Z h o0 sC2 "hashIsZero" "Z" (.int 0) ∧ Fld Z h o0 sC2 "value" "[B" (.ref o1)
theorem rm21_1 (l : Launch) (Z : State) (a0 : Array Value) (hw : HW Z a0) (ws : List Jvm.Cond) (w_EMPTY_MAP w_cache w_mir0 w_mir1 : Addr) (z_COMPACT_STRINGS : Int32) (o0 : Addr) (o1 : Addr) (kk_o1 : ClassId) (p0 : Int32) (h0 : Heap) (n0 : Nat) (O0 : Old Z n0 h0) (S : SF Z w_EMPTY_MAP w_cache w_mir0 w_mir1 z_COMPACT_STRINGS) (E_o0 : Exa Z h0 o0 sC2) (F_coder_o0 : Fld Z h0 o0 sC2 "coder" "B" (.int 0)) (F_hash_o0 : Fld Z h0 o0 sC2 "hash" "I" (.int 0)) (F_hashIsZero_o0 : Fld Z h0 o0 sC2 "hashIsZero" "Z" (.int 0)) (F_value_o0 : Fld Z h0 o0 sC2 "value" "[B" (.ref o1)) (V_o1 : Arv Z h0 o1 kk_o1 .byte (1 : Int32) [(.int p0)] (.int 0)) (g_o0 : n0 ≤ o0) (hc0 : ¬ ((p0 &&& (255 : Int32)) = (0 : Int32))) :
    Pay l Z My21 ws jdk_42_method_78_code 2 (some .int) #[(.ref o0)] h0 ({ frames := 1, cells := 0, slots := 0, locals := 12 } : Room) (Q21_1 Z w_EMPTY_MAP w_cache w_mir0 w_mir1 z_COMPACT_STRINGS o0 o1 kk_o1 p0 h0 n0) := by
  refine own_body (plainFor_of_name pn_3) (L0 := #[va o0, uu]) (fun _ => by first | rfl | (simp [entryFrame, mkF, argsToLocals, Value.category]; done)) ?_
  intro p e s m below meth c s₁ hrt hlk hx hby hml hZ hown0 hnm X0 e0
  have hown : s.vm.findClass sC2 = some m.cls := hown0
  have N0 := Fr.nil n0
  have K0 : Keep h0 h0 [o0] := Keep.refl _ _
  obtain ⟨T1, X1, e1, st1⟩ := getF X0 hx hZ hown (host := "") (Or.inl (ww hw 137 rfl)) Via.refl e0 F_hash_o0 (g := (mkF m 1 #[va o0, uu] [(.ref o0)])) rfl rfl (hb hby d21_1)
  obtain ⟨T2, X2, e2, st2⟩ := getF X1 hx hZ hown (host := "") (Or.inl (ww hw 139 rfl)) Via.refl e1 F_hashIsZero_o0 (g := (mkF m 10 #[va o0, vi 0] [(.ref o0)])) rfl rfl (hb hby d21_10)
  obtain ⟨cq3, kq3, q3a, q3b, q3c⟩ := isOf hZ e2 E_o0
  obtain ⟨_, _, ⟨T3, L3, k3, n3⟩, -, X3, ⟨Lc3, hQ3, l3, y3, z3⟩, st3⟩ := X2.virtualBack hx (y := My22) (z := My22) hown (mvT hZ (ww hw 141 rfl)) (mvT hZ (ww hw 142 rfl)) (notFace_of_selects (args := #[]) (mvT hZ (ww hw 144 rfl))) (mvT hZ (ww hw 144 rfl)) (mvT hZ (ww hw 143 rfl)) (by decide) (backOf (W := 0) (rm22_0 l Z a0 hw [] w_EMPTY_MAP w_cache w_mir0 w_mir1 z_COMPACT_STRINGS o0 o1 kk_o1 p0 h0 n0 O0 S F_coder_o0) hZ (ww hw 145 rfl) (ww hw 24 rfl) (by decide) (by decide)) q3a q3c (g := (mkF m 17 #[va o0, vi 0] [(.ref o0)])) rfl (by rw [hml]; rfl) (Steps.refl _) (argsL := []) (rest := []) (lenOf pd_16 rfl) rfl (by show 2 * 0 + _ ≤ _; exact Nat.le_of_eq rfl) (hb hby d21_17) (fun _ _ => ⟨rfl, e2, (by decide : 0 + 0 ≤ _), (by decide : 0 + 0 ≤ _)⟩)
  dsimp only [Pt.U, Pt.locs, Pt.cells, Pt.slots] at X3 l3 y3 z3 st3 hQ3
  subst l3 y3 z3
  obtain ⟨rfl, Nq3, e3⟩ := hQ3
  have N3 := Fr.app N0 Nq3
  obtain ⟨T4, X4, e4, st4⟩ := getF X3 hx hZ hown (host := "") (Or.inl (ww hw 42 rfl)) Via.refl e3 F_value_o0 (g := (mkF m 24 #[va o0, vi 0] [(.ref o0)])) rfl rfl (hb hby d21_24)
  obtain ⟨_, _, ⟨T5, L5, k5, n5⟩, -, X5, ⟨Lc5, hQ5, l5, y5, z5⟩, st5⟩ := Jvm.LawKit.callS X4 hx (y := (⟨sC11, "hashCode", "([B)I"⟩ : MethodName)) hown (mvT hZ (ww hw 146 rfl)) (mvT hZ (ww hw 147 rfl)) (mvT hZ (ww hw 29 rfl)) (mvT hZ (ww hw 148 rfl)) (by decide) (backOf (W := 0) (rm23_0 l Z a0 hw [] w_EMPTY_MAP w_cache w_mir0 w_mir1 z_COMPACT_STRINGS o1 kk_o1 p0 h0 n0 O0 S V_o1) hZ (ww hw 148 rfl) (ww hw 29 rfl) (by decide) (by decide)) (g := (mkF m 27 #[va o0, vi 0] [(.ref o1)])) rfl (by rw [hml]; rfl) (argsL := [(.ref o1)]) (rest := []) (lenOf pd_17 rfl) rfl (by show 2 * 0 + _ ≤ _; exact Nat.le_of_eq rfl) (hb hby d21_27) (fun _ _ => ⟨rfl, e4, (by decide : 0 + 0 ≤ _), (by decide : 0 + 0 ≤ _)⟩)
  dsimp only [Pt.U, Pt.locs, Pt.cells, Pt.slots] at X5 l5 y5 z5 st5 hQ5
  subst l5 y5 z5
  obtain ⟨rfl, Nq5, e5⟩ := hQ5
  have N5 := Fr.app N3 Nq5
  obtain ⟨T6, h6, X6, e6, W6, st6⟩ := putF X5 hx hZ hown (host := "") (Or.inl (ww hw 137 rfl)) Via.refl e5 F_hash_o0 E_o0 (Or.inl (ww hw 138 rfl)) (ww hw 32 rfl) (ty := .int) (by decide) rfl rfl (g := (mkF m 55 #[va o0, vi (p0 &&& (255 : Int32))] [(.int (p0 &&& (255 : Int32))), (.ref o0)])) rfl rfl (hb hby d21_55)
  have Fw6 := F_hash_o0.same W6
  have O6 := O0.wr W6 g_o0
  have K6 : Keep h0 h6 [o0] := K0.wr W6 (Or.inl (List.mem_of_getElem? (i := 0) rfl))
  have N6 := Fr.snoc X6 N5 g_o0
  obtain ⟨fs, hr, hrun, hended, hW, hsame⟩ := X6.leave (v := (some (.int (p0 &&& (255 : Int32))))) (fun h => by rw [hrt] at h; cases h)
  have fc7 := (E_o0.wr W6)
  have fc8 := (F_coder_o0.other W6 (Or.inr (slot_ne (Or.inr (ww hw 45 rfl)) (Or.inl (ww hw 138 rfl)) (by decide) (t := .byte) (t' := .int) (by decide) (by decide))))
  have fc9 := (F_hashIsZero_o0.other W6 (Or.inr (slot_ne (Or.inl (ww hw 140 rfl)) (Or.inl (ww hw 138 rfl)) (by decide) (t := .boolean) (t' := .int) (by decide) (by decide))))
  have fc10 := (F_value_o0.other W6 (Or.inr (slot_ne (Or.inr (ww hw 43 rfl)) (Or.inl (ww hw 138 rfl)) (by decide) (t := (.array .byte)) (t' := .int) (by decide) (by decide))))
  refine ⟨_, _, ?_, hrun, hended, _, _, rfl, ?_, ⟨_, rfl⟩, hW, hsame.mono (by decide) (by decide)⟩
  · show Steps p.tables e below (s₁.setTop (mkF m 0 #[va o0, uu] [])) _
    refine XS.aloadN X0.here hx rfl (hb hby d21_0) rfl rfl ?_
    refine st1 _ ?_
    refine XS.istoreN X1.here hx rfl (hb hby d21_4) rfl (l' := #[va o0, vi 0]) rfl ?_
    refine XS.iloadN X1.here hx rfl (hb hby d21_5) rfl ?_
    refine XS.ifNo X1.here hx rfl (hb hby d21_6) rfl ((if0 _ _).trans (teq (by decide : (0 : Int32) = (0 : Int32))).2) ?_
    refine XS.aloadN X1.here hx rfl (hb hby d21_9) rfl rfl ?_
    refine st2 _ ?_
    refine XS.ifNo X2.here hx rfl (hb hby d21_13) rfl ((if0 _ _).trans (teq (by decide : (0 : Int32) = (0 : Int32))).2) ?_
    show Steps p.tables e below (T2.setTop (mkF m 16 #[va o0, vi 0] [])) _
    refine XS.aloadN X2.here hx rfl (hb hby d21_16) rfl rfl ?_
    refine st3.trans ?_
    refine XS.ifNo X3.here hx rfl (hb hby d21_20) rfl ((if0 _ _).trans (feq (by decide : ¬ ((1 : Int32) = (0 : Int32)))).1) ?_
    refine XS.aloadN X3.here hx rfl (hb hby d21_23) rfl rfl ?_
    refine st4 _ ?_
    refine st5 _ ?_
    refine XS.goto X5.here hx rfl (pc0 := 30) (pc' := 40) rfl (hb hby d21_30) (by decide) (by decide) ?_
    refine XS.istoreN X5.here hx rfl (hb hby d21_40) rfl (l' := #[va o0, vi (p0 &&& (255 : Int32))]) rfl ?_
    show Steps p.tables e below (T5.setTop (mkF m 41 #[va o0, vi (p0 &&& (255 : Int32))] [])) _
    refine XS.iloadN X5.here hx rfl (hb hby d21_41) rfl ?_
    refine XS.ifYes X5.here hx rfl (pc0 := 42) (pc' := 53) rfl (hb hby d21_42) rfl ((if0 _ _).trans (feq hc0).2) (by decide) (by decide) ?_
    refine XS.aloadN X5.here hx rfl (hb hby d21_53) rfl rfl ?_
    refine XS.iloadN X5.here hx rfl (hb hby d21_54) rfl ?_
    refine st6 _ ?_
    refine XS.iloadN X6.here hx rfl (hb hby d21_58) rfl ?_
    exact retOut X6 hx (t := .int) (i := .ireturn) hrt rfl (Or.inl ⟨rfl, Or.inl rfl, _, rfl⟩) (hb hby d21_59) hr
  · show Q21_1 Z w_EMPTY_MAP w_cache w_mir0 w_mir1 z_COMPACT_STRINGS o0 o1 kk_o1 p0 h0 n0 (some (.int (p0 &&& (255 : Int32)))) T6.heap _
    rw [e6]; exact ⟨rfl, N6, K6, fc7, fc8, Fw6, fc9, fc10⟩
def Q20_1 (Z : State) (w_EMPTY_MAP w_cache w_mir0 w_mir1 : Addr) (z_COMPACT_STRINGS : Int32) (o0 : Addr) (o1 : Addr) (kk_o1 : ClassId) (p0 : Int32) (h0 : Heap) (n0 : Nat) (v : Option Value) (h : Heap) (L : List Loc) : Prop := v = (some (.int ((p0 &&& (255 : Int32)) ^^^ (((p0 &&& (255 : Int32)).toUInt32 >>> ((16 : Int32) &&& 31).toUInt32).toInt32)))) ∧ Fr n0 L ∧ Keep h0 h [o0] ∧ Exa Z h o0 sC2 ∧ Fld Z h o0 sC2 "coder" "B" (.int 0) ∧ Fld Z h o0 sC2 "hash" "I" (.int (p0 &&& (255 : Int32))) ∧ Fld Z h o0 sC2 "hashIsZero" "Z" (.int 0) ∧ Fld Z h o0 sC2 "value" "[B" (.ref o1)
theorem rm20_1 (l : Launch) (Z : State) (a0 : Array Value) (hw : HW Z a0) (ws : List Jvm.Cond) (w_EMPTY_MAP w_cache w_mir0 w_mir1 : Addr) (z_COMPACT_STRINGS : Int32) (o0 : Addr) (o1 : Addr) (kk_o1 : ClassId) (p0 : Int32) (h0 : Heap) (n0 : Nat) (O0 : Old Z n0 h0) (S : SF Z w_EMPTY_MAP w_cache w_mir0 w_mir1 z_COMPACT_STRINGS) (E_o0 : Exa Z h0 o0 sC2) (F_coder_o0 : Fld Z h0 o0 sC2 "coder" "B" (.int 0)) (F_hash_o0 : Fld Z h0 o0 sC2 "hash" "I" (.int 0)) (F_hashIsZero_o0 : Fld Z h0 o0 sC2 "hashIsZero" "Z" (.int 0)) (F_value_o0 : Fld Z h0 o0 sC2 "value" "[B" (.ref o1)) (V_o1 : Arv Z h0 o1 kk_o1 .byte (1 : Int32) [(.int p0)] (.int 0)) (g_o0 : n0 ≤ o0) (hc0 : ¬ ((p0 &&& (255 : Int32)) = (0 : Int32))) :
    Pay l Z My20 ws jdk_69_method_1_code 2 (some .int) #[(.ref o0)] h0 ({ frames := 2, cells := 0, slots := 0, locals := 25 } : Room) (Q20_1 Z w_EMPTY_MAP w_cache w_mir0 w_mir1 z_COMPACT_STRINGS o0 o1 kk_o1 p0 h0 n0) := by
  refine own_body (plainFor_of_name pn_9) (L0 := #[va o0, uu]) (fun _ => by first | rfl | (simp [entryFrame, mkF, argsToLocals, Value.category]; done)) ?_
  intro p e s m below meth c s₁ hrt hlk hx hby hml hZ hown0 hnm X0 e0
  have hown : s.vm.findClass sC0 = some m.cls := hown0
  have N0 := Fr.nil n0
  have K0 : Keep h0 h0 [o0] := Keep.refl _ _
  obtain ⟨cq1, kq1, q1a, q1b, q1c⟩ := isOf hZ e0 E_o0
  obtain ⟨_, _, ⟨T1, L1, k1, n1⟩, -, X1, ⟨Lc1, hQ1, l1, y1, z1⟩, st1⟩ := X0.virtualBack hx (y := (⟨sC5, "hashCode", "()I"⟩ : MethodName)) (z := My21) hown (mvT hZ (ww hw 131 rfl)) (mvT hZ (ww hw 132 rfl)) (own_nf (args := #[]) (z := (⟨sC5, "getClass", "()Ljava/lang/Class;"⟩ : MethodName)) rfl (mvT hZ (ww hw 224 rfl))) (mvT hZ (ww hw 134 rfl)) (mvT hZ (ww hw 135 rfl)) (by decide) (backOf (W := 0) (rm21_1 l Z a0 hw [] w_EMPTY_MAP w_cache w_mir0 w_mir1 z_COMPACT_STRINGS o0 o1 kk_o1 p0 h0 n0 O0 S E_o0 F_coder_o0 F_hash_o0 F_hashIsZero_o0 F_value_o0 V_o1 g_o0 hc0) hZ (ww hw 136 rfl) (ww hw 24 rfl) (by decide) (by decide)) q1a q1c (g := (mkF m 9 #[va o0, uu] [(.ref o0)])) rfl (by rw [hml]; rfl) (Steps.refl _) (argsL := []) (rest := []) (lenOf pd_13 rfl) rfl (by show 2 * 0 + _ ≤ _; exact Nat.le_of_eq rfl) (hb hby d20_9) (fun _ _ => ⟨rfl, e0, (by decide : 0 + 0 ≤ _), (by decide : 0 + 0 ≤ _)⟩)
  dsimp only [Pt.U, Pt.locs, Pt.cells, Pt.slots] at X1 l1 y1 z1 st1 hQ1
  subst l1 y1 z1
  obtain ⟨rfl, Nq1, Kc1, P0_1, P1_1, P2_1, P3_1, P4_1⟩ := hQ1
  have N1 := Fr.app N0 Nq1
  have O1 := O0.keep Kc1 (allS g_o0 all0)
  have K1 : Keep h0 T1.heap [o0] := K0.trans Kc1 (allS (Or.inl (List.mem_of_getElem? (i := 0) rfl)) all0)
  obtain ⟨fs, hr, hrun, hended, hW, hsame⟩ := X1.leave (v := (some (.int ((p0 &&& (255 : Int32)) ^^^ (((p0 &&& (255 : Int32)).toUInt32 >>> ((16 : Int32) &&& 31).toUInt32).toInt32))))) (fun h => by rw [hrt] at h; cases h)
  refine ⟨_, _, ?_, hrun, hended, _, _, rfl, ?_, ⟨_, rfl⟩, hW, hsame.mono (by decide) (by decide)⟩
  · show Steps p.tables e below (s₁.setTop (mkF m 0 #[va o0, uu] [])) _
    refine XS.aloadN X0.here hx rfl (hb hby d20_0) rfl rfl ?_
    refine XS.ifnonnullYes X0.here hx rfl (pc0 := 1) (pc' := 8) rfl (hb hby d20_1) rfl (by decide) (by decide) ?_
    refine XS.aloadN X0.here hx rfl (hb hby d20_8) rfl rfl ?_
    refine st1.trans ?_
    refine XS.dup X1.here hx rfl (hb hby d20_12) rfl rfl ?_
    refine XS.istoreN X1.here hx rfl (hb hby d20_13) rfl (l' := #[va o0, vi (p0 &&& (255 : Int32))]) rfl ?_
    refine XS.iloadN X1.here hx rfl (hb hby d20_14) rfl ?_
    refine XS.bipush X1.here hx rfl (hb hby d20_15) ?_
    show Steps p.tables e below (T1.setTop (mkF m 17 #[va o0, vi (p0 &&& (255 : Int32))] [(.int 16), (.int (p0 &&& (255 : Int32))), (.int (p0 &&& (255 : Int32)))])) _
    refine XS.iushr X1.here hx rfl (hb hby d20_17) rfl ?_
    refine XS.ixor X1.here hx rfl (hb hby d20_18) rfl ?_
    exact retOut X1 hx (t := .int) (i := .ireturn) hrt rfl (Or.inl ⟨rfl, Or.inl rfl, _, rfl⟩) (hb hby d20_19) hr
  · show Q20_1 Z w_EMPTY_MAP w_cache w_mir0 w_mir1 z_COMPACT_STRINGS o0 o1 kk_o1 p0 h0 n0 (some (.int ((p0 &&& (255 : Int32)) ^^^ (((p0 &&& (255 : Int32)).toUInt32 >>> ((16 : Int32) &&& 31).toUInt32).toInt32)))) T1.heap _
    exact (⟨rfl, N1, K1, P0_1, P1_1, P2_1, P3_1, P4_1⟩)
def Q28_1 (Z : State) (w_EMPTY_MAP w_cache w_mir0 w_mir1 : Addr) (z_COMPACT_STRINGS : Int32) (o0 : Addr) (o1 : Addr) (o2 : Addr) (o3 : Addr) (kk_o2 : ClassId) (p0 : Int32) (p1 : Int32) (p2 : Int32) (h0 : Heap) (n0 : Nat) (v : Option Value) (h : Heap) (L : List Loc) : Prop := v = none ∧ Fr n0 L ∧ Keep h0 h [o0] ∧ Exa Z h o0 sC4 ∧ Fld Z h o0 sC3 "hash" "I" (.int p0) ∧ Fld Z h o0 sC3 "key" "Ljava/lang/Object;" (.ref o1) ∧ Fld Z h o0 sC3 "next" "Ljava/util/HashMap$Node;" .null ∧ Fld Z h o0 sC3 "value" "Ljava/lang/Object;" (.ref o3)
theorem rm28_1 (l : Launch) (Z : State) (a0 : Array Value) (hw : HW Z a0) (ws : List Jvm.Cond) (w_EMPTY_MAP w_cache w_mir0 w_mir1 : Addr) (z_COMPACT_STRINGS : Int32) (o0 : Addr) (o1 : Addr) (o2 : Addr) (o3 : Addr) (kk_o2 : ClassId) (p0 : Int32) (p1 : Int32) (p2 : Int32) (h0 : Heap) (n0 : Nat) (O0 : Old Z n0 h0) (S : SF Z w_EMPTY_MAP w_cache w_mir0 w_mir1 z_COMPACT_STRINGS) (E_o0 : Exa Z h0 o0 sC4) (F_hash_o0 : Fld Z h0 o0 sC3 "hash" "I" (.int 0)) (F_key_o0 : Fld Z h0 o0 sC3 "key" "Ljava/lang/Object;" .null) (F_next_o0 : Fld Z h0 o0 sC3 "next" "Ljava/util/HashMap$Node;" .null) (F_value_o0 : Fld Z h0 o0 sC3 "value" "Ljava/lang/Object;" .null) (g_o0 : n0 ≤ o0) :
    Pay l Z My28 ws jdk_70_method_1_code 5 none #[(.ref o0), (.int p0), (.ref o1), (.ref o3), .null] h0 ({ frames := 1, cells := 0, slots := 0, locals := 12 } : Room) (Q28_1 Z w_EMPTY_MAP w_cache w_mir0 w_mir1 z_COMPACT_STRINGS o0 o1 o2 o3 kk_o2 p0 p1 p2 h0 n0) := by
  refine own_body (plainFor_of_name pn_13) (L0 := #[va o0, vi p0, va o1, va o3, .val .null]) (fun _ => by first | rfl | (simp [entryFrame, mkF, argsToLocals, Value.category]; done)) ?_
  intro p e s m below meth c s₁ hrt hlk hx hby hml hZ hown0 hnm X0 e0
  have hown : s.vm.findClass sC3 = some m.cls := hown0
  have N0 := Fr.nil n0
  have K0 : Keep h0 h0 [o0] := Keep.refl _ _
  obtain ⟨T1, X1, e1, st1⟩ := initO X0 hx hZ hown (ww hw 184 rfl) (ww hw 16 rfl) (ww hw 17 rfl) e0 (g := (mkF m 1 #[va o0, vi p0, va o1, va o3, .val .null] [(.ref o0)])) rfl (by rw [hml]; rfl) rfl (hb hby d28_1) (by decide) (W := 0) (by show 2 * 0 + _ ≤ _; exact Nat.le_of_eq rfl) (by decide)
  obtain ⟨T2, h2, X2, e2, W2, st2⟩ := putF X1 hx hZ hown (host := "") (Or.inl (ww hw 185 rfl)) Via.refl e1 F_hash_o0 E_o0 (Or.inr ⟨(ww hw 186 rfl), rfl, hnm⟩) (ww hw 172 rfl) (ty := .int) (by decide) rfl rfl (g := (mkF m 6 #[va o0, vi p0, va o1, va o3, .val .null] [(.int p0), (.ref o0)])) rfl rfl (hb hby d28_6)
  have Fw2 := F_hash_o0.same W2
  have O2 := O0.wr W2 g_o0
  have K2 : Keep h0 h2 [o0] := K0.wr W2 (Or.inl (List.mem_of_getElem? (i := 0) rfl))
  have N2 := Fr.snoc X2 N0 g_o0
  have fc3 := (F_key_o0.other W2 (Or.inr (slot_ne (Or.inr (ww hw 188 rfl)) (Or.inr (ww hw 186 rfl)) (by decide) (t := (.object sC5)) (t' := .int) (by decide) (by decide))))
  have fc4 := (E_o0.wr W2)
  obtain ⟨T5, h5, X5, e5, W5, st5⟩ := putF X2 hx hZ hown (host := "") (Or.inl (ww hw 187 rfl)) Via.refl e2 fc3 fc4 (Or.inr ⟨(ww hw 188 rfl), rfl, hnm⟩) (ww hw 172 rfl) (ty := (.object sC5)) (by decide) rfl rfl (g := (mkF m 11 #[va o0, vi p0, va o1, va o3, .val .null] [(.ref o1), (.ref o0)])) rfl rfl (hb hby d28_11)
  have Fw5 := fc3.same W5
  have O5 := O2.wr W5 g_o0
  have K5 : Keep h0 h5 [o0] := K2.wr W5 (Or.inl (List.mem_of_getElem? (i := 0) rfl))
  have N5 := Fr.snoc X5 N2 g_o0
  have fc6 := ((F_value_o0.other W2 (Or.inr (slot_ne (Or.inl (ww hw 190 rfl)) (Or.inr (ww hw 186 rfl)) (by decide) (t := (.object sC5)) (t' := .int) (by decide) (by decide)))).other W5 (Or.inr (slot_ne (Or.inl (ww hw 190 rfl)) (Or.inr (ww hw 188 rfl)) (by decide) (t := (.object sC5)) (t' := (.object sC5)) (by decide) (by decide))))
  have fc7 := (fc4.wr W5)
  obtain ⟨T8, h8, X8, e8, W8, st8⟩ := putF X5 hx hZ hown (host := "") (Or.inl (ww hw 189 rfl)) Via.refl e5 fc6 fc7 (Or.inl (ww hw 190 rfl)) (ww hw 172 rfl) (ty := (.object sC5)) (by decide) rfl rfl (g := (mkF m 16 #[va o0, vi p0, va o1, va o3, .val .null] [(.ref o3), (.ref o0)])) rfl rfl (hb hby d28_16)
  have Fw8 := fc6.same W8
  have O8 := O5.wr W8 g_o0
  have K8 : Keep h0 h8 [o0] := K5.wr W8 (Or.inl (List.mem_of_getElem? (i := 0) rfl))
  have N8 := Fr.snoc X8 N5 g_o0
  have fc9 := (((F_next_o0.other W2 (Or.inr (slot_ne (Or.inl (ww hw 192 rfl)) (Or.inr (ww hw 186 rfl)) (by decide) (t := (.object sC3)) (t' := .int) (by decide) (by decide)))).other W5 (Or.inr (slot_ne (Or.inl (ww hw 192 rfl)) (Or.inr (ww hw 188 rfl)) (by decide) (t := (.object sC3)) (t' := (.object sC5)) (by decide) (by decide)))).other W8 (Or.inr (slot_ne (Or.inl (ww hw 192 rfl)) (Or.inl (ww hw 190 rfl)) (by decide) (t := (.object sC3)) (t' := (.object sC5)) (by decide) (by decide))))
  have fc10 := (fc7.wr W8)
  obtain ⟨T11, h11, X11, e11, W11, st11⟩ := putF X8 hx hZ hown (host := "") (Or.inl (ww hw 191 rfl)) Via.refl e8 fc9 fc10 (Or.inl (ww hw 192 rfl)) (ww hw 172 rfl) (ty := (.object sC3)) (by decide) rfl rfl (g := (mkF m 22 #[va o0, vi p0, va o1, va o3, .val .null] [.null, (.ref o0)])) rfl rfl (hb hby d28_22)
  have Fw11 := fc9.same W11
  have O11 := O8.wr W11 g_o0
  have K11 : Keep h0 h11 [o0] := K8.wr W11 (Or.inl (List.mem_of_getElem? (i := 0) rfl))
  have N11 := Fr.snoc X11 N8 g_o0
  obtain ⟨fs, hr, hrun, hended, hW, hsame⟩ := X11.leave (v := none) (fun _ => rfl)
  have fc12 := (fc10.wr W11)
  have fc13 := (((Fw2.other W5 (Or.inr (slot_ne (Or.inr (ww hw 186 rfl)) (Or.inr (ww hw 188 rfl)) (by decide) (t := .int) (t' := (.object sC5)) (by decide) (by decide)))).other W8 (Or.inr (slot_ne (Or.inr (ww hw 186 rfl)) (Or.inl (ww hw 190 rfl)) (by decide) (t := .int) (t' := (.object sC5)) (by decide) (by decide)))).other W11 (Or.inr (slot_ne (Or.inr (ww hw 186 rfl)) (Or.inl (ww hw 192 rfl)) (by decide) (t := .int) (t' := (.object sC3)) (by decide) (by decide))))
  have fc14 := ((Fw5.other W8 (Or.inr (slot_ne (Or.inr (ww hw 188 rfl)) (Or.inl (ww hw 190 rfl)) (by decide) (t := (.object sC5)) (t' := (.object sC5)) (by decide) (by decide)))).other W11 (Or.inr (slot_ne (Or.inr (ww hw 188 rfl)) (Or.inl (ww hw 192 rfl)) (by decide) (t := (.object sC5)) (t' := (.object sC3)) (by decide) (by decide))))
  have fc15 := (Fw8.other W11 (Or.inr (slot_ne (Or.inl (ww hw 190 rfl)) (Or.inl (ww hw 192 rfl)) (by decide) (t := (.object sC5)) (t' := (.object sC3)) (by decide) (by decide))))
  refine ⟨_, _, ?_, hrun, hended, _, _, rfl, ?_, ⟨_, rfl⟩, hW, hsame.mono (by decide) (by decide)⟩
  · show Steps p.tables e below (s₁.setTop (mkF m 0 #[va o0, vi p0, va o1, va o3, .val .null] [])) _
    refine XS.aloadN X0.here hx rfl (hb hby d28_0) rfl rfl ?_
    refine st1 _ ?_
    refine XS.aloadN X1.here hx rfl (hb hby d28_4) rfl rfl ?_
    refine XS.iloadN X1.here hx rfl (hb hby d28_5) rfl ?_
    refine st2 _ ?_
    refine XS.aloadN X2.here hx rfl (hb hby d28_9) rfl rfl ?_
    refine XS.aloadN X2.here hx rfl (hb hby d28_10) rfl rfl ?_
    refine st5 _ ?_
    show Steps p.tables e below (T5.setTop (mkF m 14 #[va o0, vi p0, va o1, va o3, .val .null] [])) _
    refine XS.aloadN X5.here hx rfl (hb hby d28_14) rfl rfl ?_
    refine XS.aloadN X5.here hx rfl (hb hby d28_15) rfl rfl ?_
    refine st8 _ ?_
    refine XS.aloadN X8.here hx rfl (hb hby d28_19) rfl rfl ?_
    refine XS.aload X8.here hx rfl (hb hby d28_20) rfl rfl ?_
    refine st11 _ ?_
    exact X11.returnOut hx hrt (hb hby d28_25) hr
  · show Q28_1 Z w_EMPTY_MAP w_cache w_mir0 w_mir1 z_COMPACT_STRINGS o0 o1 o2 o3 kk_o2 p0 p1 p2 h0 n0 none T11.heap _
    rw [e11]; exact ⟨rfl, N11, K11, fc12, fc13, fc14, Fw11, fc15⟩
def Q27_1 (Z : State) (w_EMPTY_MAP w_cache w_mir0 w_mir1 : Addr) (z_COMPACT_STRINGS : Int32) (o0 : Addr) (o1 : Addr) (o2 : Addr) (o3 : Addr) (kk_o2 : ClassId) (p0 : Int32) (p1 : Int32) (p2 : Int32) (h0 : Heap) (n0 : Nat) (v : Option Value) (h : Heap) (L : List Loc) : Prop := v = none ∧ Fr n0 L ∧ Keep h0 h [o0] ∧ Exa Z h o0 sC4 ∧ Fld Z h o0 sC3 "hash" "I" (.int p0) ∧ Fld Z h o0 sC3 "key" "Ljava/lang/Object;" (.ref o1) ∧ Fld Z h o0 sC3 "next" "Ljava/util/HashMap$Node;" .null ∧ Fld Z h o0 sC3 "value" "Ljava/lang/Object;" (.ref o3)
theorem rm27_1 (l : Launch) (Z : State) (a0 : Array Value) (hw : HW Z a0) (ws : List Jvm.Cond) (w_EMPTY_MAP w_cache w_mir0 w_mir1 : Addr) (z_COMPACT_STRINGS : Int32) (o0 : Addr) (o1 : Addr) (o2 : Addr) (o3 : Addr) (kk_o2 : ClassId) (p0 : Int32) (p1 : Int32) (p2 : Int32) (h0 : Heap) (n0 : Nat) (O0 : Old Z n0 h0) (S : SF Z w_EMPTY_MAP w_cache w_mir0 w_mir1 z_COMPACT_STRINGS) (E_o0 : Exa Z h0 o0 sC4) (F_hash_o0 : Fld Z h0 o0 sC3 "hash" "I" (.int 0)) (F_key_o0 : Fld Z h0 o0 sC3 "key" "Ljava/lang/Object;" .null) (F_next_o0 : Fld Z h0 o0 sC3 "next" "Ljava/util/HashMap$Node;" .null) (F_value_o0 : Fld Z h0 o0 sC3 "value" "Ljava/lang/Object;" .null) (g_o0 : n0 ≤ o0) :
    Pay l Z My27 ws jdk_83_method_1_code 5 none #[(.ref o0), (.int p0), (.ref o1), (.ref o3), .null] h0 ({ frames := 2, cells := 0, slots := 0, locals := 28 } : Room) (Q27_1 Z w_EMPTY_MAP w_cache w_mir0 w_mir1 z_COMPACT_STRINGS o0 o1 o2 o3 kk_o2 p0 p1 p2 h0 n0) := by
  refine own_body (plainFor_of_name pn_12) (L0 := #[va o0, vi p0, va o1, va o3, .val .null]) (fun _ => by first | rfl | (simp [entryFrame, mkF, argsToLocals, Value.category]; done)) ?_
  intro p e s m below meth c s₁ hrt hlk hx hby hml hZ hown0 hnm X0 e0
  have hown : s.vm.findClass sC4 = some m.cls := hown0
  have N0 := Fr.nil n0
  have K0 : Keep h0 h0 [o0] := Keep.refl _ _
  obtain ⟨_, _, ⟨T1, L1, k1, n1⟩, -, X1, ⟨Lc1, hQ1, l1, y1, z1⟩, st1⟩ := X0.specialBack hx (y := My28) rfl hown (mvT hZ (ww hw 178 rfl)) (mvT hZ (ww hw 179 rfl)) (mvT hZ (ww hw 183 rfl)) (by decide) (backOf (W := 0) (rm28_1 l Z a0 hw [] w_EMPTY_MAP w_cache w_mir0 w_mir1 z_COMPACT_STRINGS o0 o1 o2 o3 kk_o2 p0 p1 p2 h0 n0 O0 S E_o0 F_hash_o0 F_key_o0 F_next_o0 F_value_o0 g_o0) hZ (ww hw 183 rfl) (ww hw 182 rfl) (by decide) (by decide)) (g := (mkF m 6 #[va o0, vi p0, va o1, va o3, .val .null] [.null, (.ref o3), (.ref o1), (.int p0), (.ref o0)])) rfl (by rw [hml]; rfl) (Steps.refl _) (a := o0) (argsL := [(.int p0), (.ref o1), (.ref o3), .null]) (rest := []) (lenOf pd_20 rfl) rfl (by show 2 * 0 + _ ≤ _; exact Nat.le_of_eq rfl) (hb hby d27_6) (fun _ _ => ⟨rfl, e0, (by decide : 0 + 0 ≤ _), (by decide : 0 + 0 ≤ _)⟩)
  dsimp only [Pt.U, Pt.locs, Pt.cells, Pt.slots] at X1 l1 y1 z1 st1 hQ1
  subst l1 y1 z1
  obtain ⟨rfl, Nq1, Kc1, P0_1, P1_1, P2_1, P3_1, P4_1⟩ := hQ1
  have N1 := Fr.app N0 Nq1
  have O1 := O0.keep Kc1 (allS g_o0 all0)
  have K1 : Keep h0 T1.heap [o0] := K0.trans Kc1 (allS (Or.inl (List.mem_of_getElem? (i := 0) rfl)) all0)
  obtain ⟨fs, hr, hrun, hended, hW, hsame⟩ := X1.leave (v := none) (fun _ => rfl)
  refine ⟨_, _, ?_, hrun, hended, _, _, rfl, ?_, ⟨_, rfl⟩, hW, hsame.mono (by decide) (by decide)⟩
  · show Steps p.tables e below (s₁.setTop (mkF m 0 #[va o0, vi p0, va o1, va o3, .val .null] [])) _
    refine XS.aloadN X0.here hx rfl (hb hby d27_0) rfl rfl ?_
    refine XS.iloadN X0.here hx rfl (hb hby d27_1) rfl ?_
    refine XS.aloadN X0.here hx rfl (hb hby d27_2) rfl rfl ?_
    refine XS.aloadN X0.here hx rfl (hb hby d27_3) rfl rfl ?_
    refine XS.aload X0.here hx rfl (hb hby d27_4) rfl rfl ?_
    refine st1.trans ?_
    exact X1.returnOut hx hrt (hb hby d27_9) hr
  · show Q27_1 Z w_EMPTY_MAP w_cache w_mir0 w_mir1 z_COMPACT_STRINGS o0 o1 o2 o3 kk_o2 p0 p1 p2 h0 n0 none T1.heap _
    exact (⟨rfl, N1, K1, P0_1, P1_1, P2_1, P3_1, P4_1⟩)
def Q29_1 (Z : State) (w_EMPTY_MAP w_cache w_mir0 w_mir1 : Addr) (z_COMPACT_STRINGS : Int32) (o0 : Addr) (o1 : Addr) (o2 : Addr) (o3 : Addr) (o4 : Addr) (o5 : Addr) (kk_o1 : ClassId) (kk_o4 : ClassId) (p0 : Int32) (p1 : Int32) (p2 : Int32) (h0 : Heap) (n0 : Nat) (v : Option Value) (h : Heap) (L : List Loc) : Prop := v = none ∧ Fr n0 L ∧ Keep h0 h [o0] ∧ Exa Z h o0 sC1 ∧ Fld Z h o0 sC0 "loadFactor" "F" (.float (1061158912 : UInt32)) ∧ Fld Z h o0 sC0 "modCount" "I" (.int 0) ∧ Fld Z h o0 sC0 "size" "I" (.int 0) ∧ Fld Z h o0 sC0 "table" "[Ljava/util/HashMap$Node;" (.ref o1) ∧ Fld Z h o0 sC0 "threshold" "I" (.int 12) ∧ Fld Z h o0 sC1 "accessOrder" "Z" (.int 0) ∧ Fld Z h o0 sC1 "head" "Ljava/util/LinkedHashMap$Entry;" (.ref o2) ∧ Fld Z h o0 sC1 "putMode" "I" (.int 0) ∧ Fld Z h o0 sC1 "tail" "Ljava/util/LinkedHashMap$Entry;" (.ref o2)
theorem rm29_1 (l : Launch) (Z : State) (a0 : Array Value) (hw : HW Z a0) (ws : List Jvm.Cond) (w_EMPTY_MAP w_cache w_mir0 w_mir1 : Addr) (z_COMPACT_STRINGS : Int32) (o0 : Addr) (o1 : Addr) (o2 : Addr) (o3 : Addr) (o4 : Addr) (o5 : Addr) (kk_o1 : ClassId) (kk_o4 : ClassId) (p0 : Int32) (p1 : Int32) (p2 : Int32) (h0 : Heap) (n0 : Nat) (O0 : Old Z n0 h0) (S : SF Z w_EMPTY_MAP w_cache w_mir0 w_mir1 z_COMPACT_STRINGS) (E_o0 : Exa Z h0 o0 sC1) (F_loadFactor_o0 : Fld Z h0 o0 sC0 "loadFactor" "F" (.float (1061158912 : UInt32))) (F_modCount_o0 : Fld Z h0 o0 sC0 "modCount" "I" (.int 0)) (F_size_o0 : Fld Z h0 o0 sC0 "size" "I" (.int 0)) (F_table_o0 : Fld Z h0 o0 sC0 "table" "[Ljava/util/HashMap$Node;" (.ref o1)) (F_threshold_o0 : Fld Z h0 o0 sC0 "threshold" "I" (.int 12)) (F_accessOrder_o0 : Fld Z h0 o0 sC1 "accessOrder" "Z" (.int 0)) (F_head_o0 : Fld Z h0 o0 sC1 "head" "Ljava/util/LinkedHashMap$Entry;" .null) (F_putMode_o0 : Fld Z h0 o0 sC1 "putMode" "I" (.int 0)) (F_tail_o0 : Fld Z h0 o0 sC1 "tail" "Ljava/util/LinkedHashMap$Entry;" .null) (g_o0 : n0 ≤ o0) :
    Pay l Z My29 ws jdk_94_method_1_code 3 none #[(.ref o0), (.ref o2)] h0 ({ frames := 0, cells := 0, slots := 0, locals := 0 } : Room) (Q29_1 Z w_EMPTY_MAP w_cache w_mir0 w_mir1 z_COMPACT_STRINGS o0 o1 o2 o3 o4 o5 kk_o1 kk_o4 p0 p1 p2 h0 n0) := by
  refine own_body (plainFor_of_name pn_8) (L0 := #[va o0, va o2, uu]) (fun _ => by first | rfl | (simp [entryFrame, mkF, argsToLocals, Value.category]; done)) ?_
  intro p e s m below meth c s₁ hrt hlk hx hby hml hZ hown0 hnm X0 e0
  have hown : s.vm.findClass sC1 = some m.cls := hown0
  have N0 := Fr.nil n0
  have K0 : Keep h0 h0 [o0] := Keep.refl _ _
  obtain ⟨T1, X1, e1, st1⟩ := getF X0 hx hZ hown (host := "") (Or.inl (ww hw 97 rfl)) Via.refl e0 F_putMode_o0 (g := (mkF m 1 #[va o0, va o2, uu] [(.ref o0)])) rfl rfl (hb hby d29_1)
  obtain ⟨T2, X2, e2, st2⟩ := getF X1 hx hZ hown (host := "") (Or.inl (ww hw 198 rfl)) Via.refl e1 F_tail_o0 (g := (mkF m 44 #[va o0, va o2, uu] [(.ref o0)])) rfl rfl (hb hby d29_44)
  obtain ⟨T3, h3, X3, e3, W3, st3⟩ := putF X2 hx hZ hown (host := "") (Or.inl (ww hw 198 rfl)) Via.refl e2 F_tail_o0 E_o0 (Or.inl (ww hw 199 rfl)) (ww hw 76 rfl) (ty := (.object sC4)) (by decide) rfl rfl (g := (mkF m 50 #[va o0, va o2, .val .null] [(.ref o2), (.ref o0)])) rfl rfl (hb hby d29_50)
  have Fw3 := F_tail_o0.same W3
  have O3 := O0.wr W3 g_o0
  have K3 : Keep h0 h3 [o0] := K0.wr W3 (Or.inl (List.mem_of_getElem? (i := 0) rfl))
  have N3 := Fr.snoc X3 N0 g_o0
  have fc4 := (F_head_o0.other W3 (Or.inr (slot_ne (Or.inl (ww hw 201 rfl)) (Or.inl (ww hw 199 rfl)) (by decide) (t := (.object sC4)) (t' := (.object sC4)) (by decide) (by decide))))
  have fc5 := (E_o0.wr W3)
  obtain ⟨T6, h6, X6, e6, W6, st6⟩ := putF X3 hx hZ hown (host := "") (Or.inl (ww hw 200 rfl)) Via.refl e3 fc4 fc5 (Or.inl (ww hw 201 rfl)) (ww hw 76 rfl) (ty := (.object sC4)) (by decide) rfl rfl (g := (mkF m 59 #[va o0, va o2, .val .null] [(.ref o2), (.ref o0)])) rfl rfl (hb hby d29_59)
  have Fw6 := fc4.same W6
  have O6 := O3.wr W6 g_o0
  have K6 : Keep h0 h6 [o0] := K3.wr W6 (Or.inl (List.mem_of_getElem? (i := 0) rfl))
  have N6 := Fr.snoc X6 N3 g_o0
  obtain ⟨fs, hr, hrun, hended, hW, hsame⟩ := X6.leave (v := none) (fun _ => rfl)
  have fc7 := (fc5.wr W6)
  have fc8 := ((F_loadFactor_o0.other W3 (Or.inr (slot_ne (Or.inr (ww hw 96 rfl)) (Or.inl (ww hw 199 rfl)) (by decide) (t := .float) (t' := (.object sC4)) (by decide) (by decide)))).other W6 (Or.inr (slot_ne (Or.inr (ww hw 96 rfl)) (Or.inl (ww hw 201 rfl)) (by decide) (t := .float) (t' := (.object sC4)) (by decide) (by decide))))
  have fc9 := ((F_modCount_o0.other W3 (Or.inr (slot_ne (Or.inl (ww hw 203 rfl)) (Or.inl (ww hw 199 rfl)) (by decide) (t := .int) (t' := (.object sC4)) (by decide) (by decide)))).other W6 (Or.inr (slot_ne (Or.inl (ww hw 203 rfl)) (Or.inl (ww hw 201 rfl)) (by decide) (t := .int) (t' := (.object sC4)) (by decide) (by decide))))
  have fc10 := ((F_size_o0.other W3 (Or.inr (slot_ne (Or.inl (ww hw 205 rfl)) (Or.inl (ww hw 199 rfl)) (by decide) (t := .int) (t' := (.object sC4)) (by decide) (by decide)))).other W6 (Or.inr (slot_ne (Or.inl (ww hw 205 rfl)) (Or.inl (ww hw 201 rfl)) (by decide) (t := .int) (t' := (.object sC4)) (by decide) (by decide))))
  have fc11 := ((F_table_o0.other W3 (Or.inr (slot_ne (Or.inl (ww hw 155 rfl)) (Or.inl (ww hw 199 rfl)) (by decide) (t := (.array (.object sC3))) (t' := (.object sC4)) (by decide) (by decide)))).other W6 (Or.inr (slot_ne (Or.inl (ww hw 155 rfl)) (Or.inl (ww hw 201 rfl)) (by decide) (t := (.array (.object sC3))) (t' := (.object sC4)) (by decide) (by decide))))
  have fc12 := ((F_threshold_o0.other W3 (Or.inr (slot_ne (Or.inl (ww hw 162 rfl)) (Or.inl (ww hw 199 rfl)) (by decide) (t := .int) (t' := (.object sC4)) (by decide) (by decide)))).other W6 (Or.inr (slot_ne (Or.inl (ww hw 162 rfl)) (Or.inl (ww hw 201 rfl)) (by decide) (t := .int) (t' := (.object sC4)) (by decide) (by decide))))
  have fc13 := ((F_accessOrder_o0.other W3 (Or.inr (slot_ne (Or.inr (ww hw 100 rfl)) (Or.inl (ww hw 199 rfl)) (by decide) (t := .boolean) (t' := (.object sC4)) (by decide) (by decide)))).other W6 (Or.inr (slot_ne (Or.inr (ww hw 100 rfl)) (Or.inl (ww hw 201 rfl)) (by decide) (t := .boolean) (t' := (.object sC4)) (by decide) (by decide))))
  have fc14 := ((F_putMode_o0.other W3 (Or.inr (slot_ne (Or.inl (ww hw 98 rfl)) (Or.inl (ww hw 199 rfl)) (by decide) (t := .int) (t' := (.object sC4)) (by decide) (by decide)))).other W6 (Or.inr (slot_ne (Or.inl (ww hw 98 rfl)) (Or.inl (ww hw 201 rfl)) (by decide) (t := .int) (t' := (.object sC4)) (by decide) (by decide))))
  have fc15 := (Fw3.other W6 (Or.inr (slot_ne (Or.inl (ww hw 199 rfl)) (Or.inl (ww hw 201 rfl)) (by decide) (t := (.object sC4)) (t' := (.object sC4)) (by decide) (by decide))))
  refine ⟨_, _, ?_, hrun, hended, _, _, rfl, ?_, ⟨_, rfl⟩, hW, hsame.mono (by decide) (by decide)⟩
  · show Steps p.tables e below (s₁.setTop (mkF m 0 #[va o0, va o2, uu] [])) _
    refine XS.aloadN X0.here hx rfl (hb hby d29_0) rfl rfl ?_
    refine st1 _ ?_
    refine XS.iconst X1.here hx rfl (hb hby d29_4) ?_
    refine XS.icmpYes X1.here hx rfl (pc0 := 5) (pc' := 43) rfl (hb hby d29_5) rfl (feq (by decide : ¬ ((0 : Int32) = (1 : Int32)))).2 (by decide) (by decide) ?_
    refine XS.aloadN X1.here hx rfl (hb hby d29_43) rfl rfl ?_
    refine st2 _ ?_
    refine XS.astoreN X2.here hx rfl (hb hby d29_47) rfl rfl (l' := #[va o0, va o2, .val .null]) rfl ?_
    refine XS.aloadN X2.here hx rfl (hb hby d29_48) rfl rfl ?_
    show Steps p.tables e below (T2.setTop (mkF m 49 #[va o0, va o2, .val .null] [(.ref o0)])) _
    refine XS.aloadN X2.here hx rfl (hb hby d29_49) rfl rfl ?_
    refine st3 _ ?_
    refine XS.aloadN X3.here hx rfl (hb hby d29_53) rfl rfl ?_
    refine XS.ifnonnullNo X3.here hx rfl (hb hby d29_54) rfl ?_
    refine XS.aloadN X3.here hx rfl (hb hby d29_57) rfl rfl ?_
    refine XS.aloadN X3.here hx rfl (hb hby d29_58) rfl rfl ?_
    refine st6 _ ?_
    refine XS.goto X6.here hx rfl (pc0 := 62) (pc' := 75) rfl (hb hby d29_62) (by decide) (by decide) ?_
    show Steps p.tables e below (T6.setTop (mkF m 75 #[va o0, va o2, .val .null] [])) _
    exact X6.returnOut hx hrt (hb hby d29_75) hr
  · show Q29_1 Z w_EMPTY_MAP w_cache w_mir0 w_mir1 z_COMPACT_STRINGS o0 o1 o2 o3 o4 o5 kk_o1 kk_o4 p0 p1 p2 h0 n0 none T6.heap _
    rw [e6]; exact ⟨rfl, N6, K6, fc7, fc8, fc9, fc10, fc11, fc12, fc13, Fw6, fc14, fc15⟩
def Q26_1 (Z : State) (w_EMPTY_MAP w_cache w_mir0 w_mir1 : Addr) (z_COMPACT_STRINGS : Int32) (o0 : Addr) (o1 : Addr) (o2 : Addr) (o3 : Addr) (o4 : Addr) (kk_o1 : ClassId) (kk_o3 : ClassId) (p0 : Int32) (p1 : Int32) (p2 : Int32) (h0 : Heap) (n0 : Nat) (v : Option Value) (h : Heap) (L : List Loc) : Prop := ∃ (b1 : Addr), v = (some (.ref b1)) ∧ Fr n0 L ∧ Keep h0 h [o0] ∧ Exa Z h o0 sC1 ∧ Fld Z h o0 sC0 "loadFactor" "F" (.float (1061158912 : UInt32)) ∧ Fld Z h o0 sC0 "modCount" "I" (.int 0) ∧ Fld Z h o0 sC0 "size" "I" (.int 0) ∧ Fld Z h o0 sC0 "table" "[Ljava/util/HashMap$Node;" (.ref o1) ∧ Fld Z h o0 sC0 "threshold" "I" (.int 12) ∧ Fld Z h o0 sC1 "accessOrder" "Z" (.int 0) ∧ Fld Z h o0 sC1 "head" "Ljava/util/LinkedHashMap$Entry;" (.ref b1) ∧ Fld Z h o0 sC1 "putMode" "I" (.int 0) ∧ Fld Z h o0 sC1 "tail" "Ljava/util/LinkedHashMap$Entry;" (.ref b1) ∧ Exa Z h b1 sC4 ∧ Fld Z h b1 sC3 "hash" "I" (.int p0) ∧ Fld Z h b1 sC3 "key" "Ljava/lang/Object;" (.ref o2) ∧ Fld Z h b1 sC3 "next" "Ljava/util/HashMap$Node;" .null ∧ Fld Z h b1 sC3 "value" "Ljava/lang/Object;" (.ref o4) ∧ h0.size ≤ b1
theorem rm26_1 (l : Launch) (Z : State) (a0 : Array Value) (hw : HW Z a0) (ws : List Jvm.Cond) (w_EMPTY_MAP w_cache w_mir0 w_mir1 : Addr) (z_COMPACT_STRINGS : Int32) (o0 : Addr) (o1 : Addr) (o2 : Addr) (o3 : Addr) (o4 : Addr) (kk_o1 : ClassId) (kk_o3 : ClassId) (p0 : Int32) (p1 : Int32) (p2 : Int32) (h0 : Heap) (n0 : Nat) (O0 : Old Z n0 h0) (S : SF Z w_EMPTY_MAP w_cache w_mir0 w_mir1 z_COMPACT_STRINGS) (E_o0 : Exa Z h0 o0 sC1) (F_loadFactor_o0 : Fld Z h0 o0 sC0 "loadFactor" "F" (.float (1061158912 : UInt32))) (F_modCount_o0 : Fld Z h0 o0 sC0 "modCount" "I" (.int 0)) (F_size_o0 : Fld Z h0 o0 sC0 "size" "I" (.int 0)) (F_table_o0 : Fld Z h0 o0 sC0 "table" "[Ljava/util/HashMap$Node;" (.ref o1)) (F_threshold_o0 : Fld Z h0 o0 sC0 "threshold" "I" (.int 12)) (F_accessOrder_o0 : Fld Z h0 o0 sC1 "accessOrder" "Z" (.int 0)) (F_head_o0 : Fld Z h0 o0 sC1 "head" "Ljava/util/LinkedHashMap$Entry;" .null) (F_putMode_o0 : Fld Z h0 o0 sC1 "putMode" "I" (.int 0)) (F_tail_o0 : Fld Z h0 o0 sC1 "tail" "Ljava/util/LinkedHashMap$Entry;" .null) (V_o1 : OAv Z h0 o1 kk_o1 sC3 (16 : Int32)) (E_o2 : Exa Z h0 o2 sC2) (V_o3 : Arv Z h0 o3 kk_o3 .byte (1 : Int32) [(.int p2)] (.int 0)) (g_o0 : n0 ≤ o0) :
    Pay l Z My26 ws jdk_94_method_4_code 6 (some (.object sC3)) #[(.ref o0), (.int p0), (.ref o2), (.ref o4), .null] h0 ({ frames := 3, cells := 1, slots := 6, locals := 45 } : Room) (Q26_1 Z w_EMPTY_MAP w_cache w_mir0 w_mir1 z_COMPACT_STRINGS o0 o1 o2 o3 o4 kk_o1 kk_o3 p0 p1 p2 h0 n0) := by
  refine own_body (plainFor_of_name pn_8) (L0 := #[va o0, vi p0, va o2, va o4, .val .null, uu]) (fun _ => by first | rfl | (simp [entryFrame, mkF, argsToLocals, Value.category]; done)) ?_
  intro p e s m below meth c s₁ hrt hlk hx hby hml hZ hown0 hnm X0 e0
  have hown : s.vm.findClass sC1 = some m.cls := hown0
  have N0 := Fr.nil n0
  have K0 : Keep h0 h0 [o0] := Keep.refl _ _
  obtain ⟨T1, h1, X1, e1, E1, A1, D1, -, st1⟩ := newO X0 hx hZ hown (ww hw 171 rfl) (ww hw 172 rfl) (ww hw 173 rfl) e0 (g := (mkF m 0 #[va o0, vi p0, va o2, va o4, .val .null, uu] [])) rfl (hb hby d26_0) (by decide) (by decide)
  obtain ⟨b1, qs1⟩ : ∃ z, z = h0.size := ⟨_, rfl⟩
  rw [← qs1] at A1 D1 st1
  have ne_o0_b1 : o0 ≠ b1 := Nat.ne_of_lt (Nat.lt_of_lt_of_le E_o0.lt (Nat.le_of_eq qs1.symm))
  have ne_o1_b1 : o1 ≠ b1 := Nat.ne_of_lt (Nat.lt_of_lt_of_le V_o1.lt (Nat.le_of_eq qs1.symm))
  have ne_o2_b1 : o2 ≠ b1 := Nat.ne_of_lt (Nat.lt_of_lt_of_le E_o2.lt (Nat.le_of_eq qs1.symm))
  have ne_o3_b1 : o3 ≠ b1 := Nat.ne_of_lt (Nat.lt_of_lt_of_le V_o3.lt (Nat.le_of_eq qs1.symm))
  have g_b1 : n0 ≤ b1 := Nat.le_trans (own_old O0) (Nat.le_of_eq qs1.symm)
  have sz_b1 : h0.size ≤ b1 := Nat.le_trans K0.1 (Nat.le_of_eq qs1.symm)
  have O1 := O0.ext E1
  have K1 : Keep h0 h1 [o0] := K0.ext E1
  have F_hash_b1 : Fld Z h1 b1 sC3 "hash" "I" (.int 0) := D1 (Or.inr (ww hw 186 rfl)) (ty := .int) (by decide)
  have F_key_b1 : Fld Z h1 b1 sC3 "key" "Ljava/lang/Object;" .null := D1 (Or.inr (ww hw 188 rfl)) (ty := (.object sC5)) (by decide)
  have F_value_b1 : Fld Z h1 b1 sC3 "value" "Ljava/lang/Object;" .null := D1 (Or.inl (ww hw 190 rfl)) (ty := (.object sC5)) (by decide)
  have F_next_b1 : Fld Z h1 b1 sC3 "next" "Ljava/util/HashMap$Node;" .null := D1 (Or.inl (ww hw 192 rfl)) (ty := (.object sC3)) (by decide)
  obtain ⟨_, _, ⟨T2, L2, k2, n2⟩, -, X2, ⟨Lc2, hQ2, l2, y2, z2⟩, st2⟩ := X1.specialBack hx (y := My27) rfl hown (mvT hZ (ww hw 174 rfl)) (mvT hZ (ww hw 175 rfl)) (mvT hZ (ww hw 177 rfl)) (by decide) (backOf (W := 1) (rm27_1 l Z a0 hw [] w_EMPTY_MAP w_cache w_mir0 w_mir1 z_COMPACT_STRINGS b1 o2 o3 o4 kk_o3 p0 p1 p2 h1 n0 O1 S A1 F_hash_b1 F_key_b1 F_next_b1 F_value_b1 g_b1) hZ (ww hw 177 rfl) (ww hw 173 rfl) (by decide) (by decide)) (g := (mkF m 9 #[va o0, vi p0, va o2, va o4, .val .null, uu] [.null, (.ref o4), (.ref o2), (.int p0), (.ref b1), (.ref b1)])) rfl (by rw [hml]; rfl) (Steps.refl _) (a := b1) (argsL := [(.int p0), (.ref o2), (.ref o4), .null]) (rest := [(.ref b1)]) (lenOf pd_20 rfl) rfl (by show 2 * 0 + _ ≤ _; exact Nat.le_of_eq rfl) (hb hby d26_9) (fun _ _ => ⟨rfl, e1, (by decide : 1 + 0 ≤ _), (by decide : 6 + 0 ≤ _)⟩)
  dsimp only [Pt.U, Pt.locs, Pt.cells, Pt.slots] at X2 l2 y2 z2 st2 hQ2
  subst l2 y2 z2
  have fc3 := (E_o0.ext E1)
  have fc4 := (V_o1.ext E1)
  have fc5 := (E_o2.ext E1)
  have fc6 := (V_o3.ext E1)
  obtain ⟨rfl, Nq2, Kc2, P0_2, P1_2, P2_2, P3_2, P4_2⟩ := hQ2
  have N2 := Fr.app N0 Nq2
  have O2 := O1.keep Kc2 (allS g_b1 all0)
  have K2 : Keep h0 T2.heap [o0] := K1.trans Kc2 (allS (Or.inr sz_b1) all0)
  have fc7 := (fc3.keep Kc2)
  have fc8 := ((F_loadFactor_o0.ext E1).keep Kc2 (ninS ne_o0_b1 nin0))
  have fc9 := ((F_modCount_o0.ext E1).keep Kc2 (ninS ne_o0_b1 nin0))
  have fc10 := ((F_size_o0.ext E1).keep Kc2 (ninS ne_o0_b1 nin0))
  have fc11 := ((F_table_o0.ext E1).keep Kc2 (ninS ne_o0_b1 nin0))
  have fc12 := ((F_threshold_o0.ext E1).keep Kc2 (ninS ne_o0_b1 nin0))
  have fc13 := ((F_accessOrder_o0.ext E1).keep Kc2 (ninS ne_o0_b1 nin0))
  have fc14 := ((F_head_o0.ext E1).keep Kc2 (ninS ne_o0_b1 nin0))
  have fc15 := ((F_putMode_o0.ext E1).keep Kc2 (ninS ne_o0_b1 nin0))
  have fc16 := ((F_tail_o0.ext E1).keep Kc2 (ninS ne_o0_b1 nin0))
  obtain ⟨cq17, qa17, qb17⟩ := fc7.cell
  obtain ⟨_, _, ⟨T17, L17, k17, n17⟩, -, X17, ⟨Lc17, hQ17, l17, y17, z17⟩, st17⟩ := X2.privateBack hx (y := My29) hown (mvT hZ (ww hw 193 rfl)) (mvT hZ (ww hw 194 rfl)) (own_selp (by decide) (mvT hZ (ww hw 76 rfl)) (mvP hZ (ww hw 195 rfl)) (mvT hZ (ww hw 194 rfl))) (Cond.privateMethod_at (mvP hZ (ww hw 195 rfl) (args := #[]))) (mvT hZ (ww hw 197 rfl)) (by decide) (backOf (W := 0) (rm29_1 l Z a0 hw [] w_EMPTY_MAP w_cache w_mir0 w_mir1 z_COMPACT_STRINGS o0 o1 b1 o2 o3 o4 kk_o1 kk_o3 p0 p1 p2 T2.heap n0 O2 S fc7 fc8 fc9 fc10 fc11 fc12 fc13 fc14 fc15 fc16 g_o0) hZ (ww hw 197 rfl) (ww hw 77 rfl) (by decide) (by decide)) (g := (mkF m 17 #[va o0, vi p0, va o2, va o4, .val .null, va b1] [(.ref b1), (.ref o0)])) rfl (by rw [hml]; rfl) (Steps.refl _) (a := o0) qa17 qb17 (argsL := [(.ref b1)]) (rest := []) (lenOf pd_21 rfl) rfl (by show 2 * 0 + _ ≤ _; exact Nat.le_of_eq rfl) (hb hby d26_17) (fun _ _ => ⟨rfl, rfl, (by decide : 1 + 0 ≤ _), (by decide : 6 + 0 ≤ _)⟩)
  dsimp only [Pt.U, Pt.locs, Pt.cells, Pt.slots] at X17 l17 y17 z17 st17 hQ17
  subst l17 y17 z17
  have fc18 := (fc4.keep Kc2 (ninS ne_o1_b1 nin0))
  have fc19 := (fc5.keep Kc2)
  have fc20 := (fc6.keep Kc2 (ninS ne_o3_b1 nin0))
  obtain ⟨rfl, Nq17, Kc17, P0_17, P1_17, P2_17, P3_17, P4_17, P5_17, P6_17, P7_17, P8_17, P9_17⟩ := hQ17
  have N17 := Fr.app N2 Nq17
  have O17 := O2.keep Kc17 (allS g_o0 all0)
  have K17 : Keep h0 T17.heap [o0] := K2.trans Kc17 (allS (Or.inl (List.mem_of_getElem? (i := 0) rfl)) all0)
  obtain ⟨fs, hr, hrun, hended, hW, hsame⟩ := X17.leave (v := (some (.ref b1))) (fun h => by rw [hrt] at h; cases h)
  have fc21 := (P0_2.keep Kc17)
  have fc22 := (P1_2.keep Kc17 (ninS (Ne.symm ne_o0_b1) nin0))
  have fc23 := (P2_2.keep Kc17 (ninS (Ne.symm ne_o0_b1) nin0))
  have fc24 := (P3_2.keep Kc17 (ninS (Ne.symm ne_o0_b1) nin0))
  have fc25 := (P4_2.keep Kc17 (ninS (Ne.symm ne_o0_b1) nin0))
  refine ⟨_, _, ?_, hrun, hended, _, _, rfl, ?_, ⟨_, rfl⟩, hW, hsame.mono (by decide) (by decide)⟩
  · show Steps p.tables e below (s₁.setTop (mkF m 0 #[va o0, vi p0, va o2, va o4, .val .null, uu] [])) _
    refine st1 _ ?_
    refine XS.dup X1.here hx rfl (hb hby d26_3) rfl rfl ?_
    refine XS.iloadN X1.here hx rfl (hb hby d26_4) rfl ?_
    refine XS.aloadN X1.here hx rfl (hb hby d26_5) rfl rfl ?_
    refine XS.aloadN X1.here hx rfl (hb hby d26_6) rfl rfl ?_
    refine XS.aload X1.here hx rfl (hb hby d26_7) rfl rfl ?_
    refine st2.trans ?_
    refine XS.astore X2.here hx rfl (hb hby d26_12) rfl rfl (l' := #[va o0, vi p0, va o2, va o4, .val .null, va b1]) rfl ?_
    show Steps p.tables e below (T2.setTop (mkF m 14 #[va o0, vi p0, va o2, va o4, .val .null, va b1] [])) _
    refine XS.aloadN X2.here hx rfl (hb hby d26_14) rfl rfl ?_
    refine XS.aload X2.here hx rfl (hb hby d26_15) rfl rfl ?_
    refine st17.trans ?_
    refine XS.aload X17.here hx rfl (hb hby d26_20) rfl rfl ?_
    exact retOut X17 hx (t := (.object sC3)) (i := .areturn) hrt rfl (Or.inr (Or.inr (Or.inr (Or.inr ⟨rfl, rfl, rfl⟩)))) (hb hby d26_22) hr
  · show Q26_1 Z w_EMPTY_MAP w_cache w_mir0 w_mir1 z_COMPACT_STRINGS o0 o1 o2 o3 o4 kk_o1 kk_o3 p0 p1 p2 h0 n0 (some (.ref b1)) T17.heap _
    exact (⟨b1, rfl, N17, K17, P0_17, P1_17, P2_17, P3_17, P4_17, P5_17, P6_17, P7_17, P8_17, P9_17, fc21, fc22, fc23, fc24, fc25, sz_b1⟩)
def Q31_1 (Z : State) (w_EMPTY_MAP w_cache w_mir0 w_mir1 : Addr) (z_COMPACT_STRINGS : Int32) (o0 : Addr) (o1 : Addr) (o2 : Addr) (o3 : Addr) (o4 : Addr) (o5 : Addr) (kk_o4 : ClassId) (p0 : Int32) (p1 : Int32) (p2 : Int32) (h0 : Heap) (n0 : Nat) (v : Option Value) (h : Heap) (L : List Loc) : Prop := v = (some (.int 0)) ∧ Fr n0 L ∧ h = h0
theorem rm31_1 (l : Launch) (Z : State) (a0 : Array Value) (hw : HW Z a0) (ws : List Jvm.Cond) (w_EMPTY_MAP w_cache w_mir0 w_mir1 : Addr) (z_COMPACT_STRINGS : Int32) (o0 : Addr) (o1 : Addr) (o2 : Addr) (o3 : Addr) (o4 : Addr) (o5 : Addr) (kk_o4 : ClassId) (p0 : Int32) (p1 : Int32) (p2 : Int32) (h0 : Heap) (n0 : Nat) (O0 : Old Z n0 h0) (S : SF Z w_EMPTY_MAP w_cache w_mir0 w_mir1 z_COMPACT_STRINGS) :
    Pay l Z My31 ws jdk_94_method_23_code 2 (some .boolean) #[(.ref o0), (.ref o2)] h0 ({ frames := 0, cells := 0, slots := 0, locals := 0 } : Room) (Q31_1 Z w_EMPTY_MAP w_cache w_mir0 w_mir1 z_COMPACT_STRINGS o0 o1 o2 o3 o4 o5 kk_o4 p0 p1 p2 h0 n0) := by
  refine own_body (plainFor_of_name pn_8) (L0 := #[va o0, va o2]) (fun _ => by first | rfl | (simp [entryFrame, mkF, argsToLocals, Value.category]; done)) ?_
  intro p e s m below meth c s₁ hrt hlk hx hby hml hZ hown0 hnm X0 e0
  have hown : s.vm.findClass sC1 = some m.cls := hown0
  have N0 := Fr.nil n0
  have K0 : Keep h0 h0 [] := Keep.refl _ _
  obtain ⟨fs, hr, hrun, hended, hW, hsame⟩ := X0.leave (v := (some (.int 0))) (fun h => by rw [hrt] at h; cases h)
  refine ⟨_, _, ?_, hrun, hended, _, _, rfl, ?_, ⟨_, rfl⟩, hW, hsame.mono (by decide) (by decide)⟩
  · show Steps p.tables e below (s₁.setTop (mkF m 0 #[va o0, va o2] [])) _
    refine XS.iconst X0.here hx rfl (hb hby d31_0) ?_
    exact retN X0 hx (t := .boolean) hrt (by simp) (hb hby d31_1) hr
  · show Q31_1 Z w_EMPTY_MAP w_cache w_mir0 w_mir1 z_COMPACT_STRINGS o0 o1 o2 o3 o4 o5 kk_o4 p0 p1 p2 h0 n0 (some (.int 0)) s₁.heap _
    exact (⟨rfl, N0, e0⟩)
def Q30_1 (Z : State) (w_EMPTY_MAP w_cache w_mir0 w_mir1 : Addr) (z_COMPACT_STRINGS : Int32) (o0 : Addr) (o1 : Addr) (o2 : Addr) (o3 : Addr) (o4 : Addr) (o5 : Addr) (kk_o4 : ClassId) (p0 : Int32) (p1 : Int32) (p2 : Int32) (h0 : Heap) (n0 : Nat) (v : Option Value) (h : Heap) (L : List Loc) : Prop := v = none ∧ Fr n0 L ∧ h = h0
theorem rm30_1 (l : Launch) (Z : State) (a0 : Array Value) (hw : HW Z a0) (ws : List Jvm.Cond) (w_EMPTY_MAP w_cache w_mir0 w_mir1 : Addr) (z_COMPACT_STRINGS : Int32) (o0 : Addr) (o1 : Addr) (o2 : Addr) (o3 : Addr) (o4 : Addr) (o5 : Addr) (kk_o4 : ClassId) (p0 : Int32) (p1 : Int32) (p2 : Int32) (h0 : Heap) (n0 : Nat) (O0 : Old Z n0 h0) (S : SF Z w_EMPTY_MAP w_cache w_mir0 w_mir1 z_COMPACT_STRINGS) (E_o0 : Exa Z h0 o0 sC1) (F_head_o0 : Fld Z h0 o0 sC1 "head" "Ljava/util/LinkedHashMap$Entry;" (.ref o2)) :
    Pay l Z My30 ws jdk_94_method_9_code 4 none #[(.ref o0), (.int 1)] h0 ({ frames := 1, cells := 0, slots := 0, locals := 13 } : Room) (Q30_1 Z w_EMPTY_MAP w_cache w_mir0 w_mir1 z_COMPACT_STRINGS o0 o1 o2 o3 o4 o5 kk_o4 p0 p1 p2 h0 n0) := by
  refine own_body (plainFor_of_name pn_8) (L0 := #[va o0, vi 1, uu, uu]) (fun _ => by first | rfl | (simp [entryFrame, mkF, argsToLocals, Value.category]; done)) ?_
  intro p e s m below meth c s₁ hrt hlk hx hby hml hZ hown0 hnm X0 e0
  have hown : s.vm.findClass sC1 = some m.cls := hown0
  have N0 := Fr.nil n0
  have K0 : Keep h0 h0 [] := Keep.refl _ _
  obtain ⟨T1, X1, e1, st1⟩ := getF X0 hx hZ hown (host := "") (Or.inl (ww hw 200 rfl)) Via.refl e0 F_head_o0 (g := (mkF m 5 #[va o0, vi 1, uu, uu] [(.ref o0)])) rfl rfl (hb hby d30_5)
  obtain ⟨cq2, kq2, q2a, q2b, q2c⟩ := isOf hZ e1 E_o0
  obtain ⟨_, _, ⟨T2, L2, k2, n2⟩, -, X2, ⟨Lc2, hQ2, l2, y2, z2⟩, st2⟩ := X1.virtualBack hx (y := My31) (z := My31) hown (mvT hZ (ww hw 212 rfl)) (mvT hZ (ww hw 213 rfl)) (notFace_of_selects (args := #[]) (mvT hZ (ww hw 215 rfl))) (mvT hZ (ww hw 215 rfl)) (mvT hZ (ww hw 214 rfl)) (by decide) (backOf (W := 0) (rm31_1 l Z a0 hw [] w_EMPTY_MAP w_cache w_mir0 w_mir1 z_COMPACT_STRINGS o0 o1 o2 o3 o4 o5 kk_o4 p0 p1 p2 h0 n0 O0 S) hZ (ww hw 216 rfl) (ww hw 77 rfl) (by decide) (by decide)) q2a q2c (g := (mkF m 15 #[va o0, vi 1, va o2, uu] [(.ref o2), (.ref o0)])) rfl (by rw [hml]; rfl) (Steps.refl _) (argsL := [(.ref o2)]) (rest := []) (lenOf pd_23 rfl) rfl (by show 2 * 0 + _ ≤ _; exact Nat.le_of_eq rfl) (hb hby d30_15) (fun _ _ => ⟨rfl, e1, (by decide : 0 + 0 ≤ _), (by decide : 0 + 0 ≤ _)⟩)
  dsimp only [Pt.U, Pt.locs, Pt.cells, Pt.slots] at X2 l2 y2 z2 st2 hQ2
  subst l2 y2 z2
  obtain ⟨rfl, Nq2, e2⟩ := hQ2
  have N2 := Fr.app N0 Nq2
  obtain ⟨fs, hr, hrun, hended, hW, hsame⟩ := X2.leave (v := none) (fun _ => rfl)
  refine ⟨_, _, ?_, hrun, hended, _, _, rfl, ?_, ⟨_, rfl⟩, hW, hsame.mono (by decide) (by decide)⟩
  · show Steps p.tables e below (s₁.setTop (mkF m 0 #[va o0, vi 1, uu, uu] [])) _
    refine XS.iloadN X0.here hx rfl (hb hby d30_0) rfl ?_
    refine XS.ifNo X0.here hx rfl (hb hby d30_1) rfl ((if0 _ _).trans (feq (by decide : ¬ ((1 : Int32) = (0 : Int32)))).1) ?_
    refine XS.aloadN X0.here hx rfl (hb hby d30_4) rfl rfl ?_
    refine st1 _ ?_
    refine XS.dup X1.here hx rfl (hb hby d30_8) rfl rfl ?_
    refine XS.astoreN X1.here hx rfl (hb hby d30_9) rfl rfl (l' := #[va o0, vi 1, va o2, uu]) rfl ?_
    refine XS.ifnullNo X1.here hx rfl (hb hby d30_10) rfl ?_
    refine XS.aloadN X1.here hx rfl (hb hby d30_13) rfl rfl ?_
    show Steps p.tables e below (T1.setTop (mkF m 14 #[va o0, vi 1, va o2, uu] [(.ref o0)])) _
    refine XS.aloadN X1.here hx rfl (hb hby d30_14) rfl rfl ?_
    refine st2.trans ?_
    refine XS.ifYes X2.here hx rfl (pc0 := 18) (pc' := 39) rfl (hb hby d30_18) rfl ((if0 _ _).trans (teq (by decide : (0 : Int32) = (0 : Int32))).1) (by decide) (by decide) ?_
    exact X2.returnOut hx hrt (hb hby d30_39) hr
  · show Q30_1 Z w_EMPTY_MAP w_cache w_mir0 w_mir1 z_COMPACT_STRINGS o0 o1 o2 o3 o4 o5 kk_o4 p0 p1 p2 h0 n0 none T2.heap _
    exact (⟨rfl, N2, e2⟩)
def Q24_1 (Z : State) (w_EMPTY_MAP w_cache w_mir0 w_mir1 : Addr) (z_COMPACT_STRINGS : Int32) (o0 : Addr) (o1 : Addr) (o2 : Addr) (o3 : Addr) (kk_o2 : ClassId) (p0 : Int32) (p1 : Int32) (p2 : Int32) (h0 : Heap) (n0 : Nat) (v : Option Value) (h : Heap) (L : List Loc) : Prop := ∃ (b5_2 : Addr), ∃ (b1_7 : Addr), v = (some .null) ∧ Fr n0 L ∧ Keep h0 h [o0] ∧ Exa Z h o0 sC1 ∧ Fld Z h o0 sC0 "loadFactor" "F" (.float (1061158912 : UInt32)) ∧ Fld Z h o0 sC0 "modCount" "I" (.int 1) ∧ Fld Z h o0 sC0 "size" "I" (.int 1) ∧ Fld Z h o0 sC0 "table" "[Ljava/util/HashMap$Node;" (.ref b5_2) ∧ Fld Z h o0 sC0 "threshold" "I" (.int 12) ∧ Fld Z h o0 sC1 "accessOrder" "Z" (.int 0) ∧ Fld Z h o0 sC1 "head" "Ljava/util/LinkedHashMap$Entry;" (.ref b1_7) ∧ Fld Z h o0 sC1 "putMode" "I" (.int 0) ∧ Fld Z h o0 sC1 "tail" "Ljava/util/LinkedHashMap$Entry;" (.ref b1_7) ∧ Exa Z h b1_7 sC4 ∧ Fld Z h b1_7 sC3 "hash" "I" (.int p0) ∧ Fld Z h b1_7 sC3 "key" "Ljava/lang/Object;" (.ref o1) ∧ Fld Z h b1_7 sC3 "next" "Ljava/util/HashMap$Node;" .null ∧ Fld Z h b1_7 sC3 "value" "Ljava/lang/Object;" (.ref o3) ∧ h0.size ≤ b5_2 ∧ h0.size ≤ b1_7 ∧ b5_2 ≠ b1_7
theorem rm24_1 (l : Launch) (Z : State) (a0 : Array Value) (hw : HW Z a0) (ws : List Jvm.Cond) (w_EMPTY_MAP w_cache w_mir0 w_mir1 : Addr) (z_COMPACT_STRINGS : Int32) (o0 : Addr) (o1 : Addr) (o2 : Addr) (o3 : Addr) (kk_o2 : ClassId) (p0 : Int32) (p1 : Int32) (p2 : Int32) (h0 : Heap) (n0 : Nat) (O0 : Old Z n0 h0) (S : SF Z w_EMPTY_MAP w_cache w_mir0 w_mir1 z_COMPACT_STRINGS) (E_o0 : Exa Z h0 o0 sC1) (F_loadFactor_o0 : Fld Z h0 o0 sC0 "loadFactor" "F" (.float (1061158912 : UInt32))) (F_modCount_o0 : Fld Z h0 o0 sC0 "modCount" "I" (.int 0)) (F_size_o0 : Fld Z h0 o0 sC0 "size" "I" (.int 0)) (F_table_o0 : Fld Z h0 o0 sC0 "table" "[Ljava/util/HashMap$Node;" .null) (F_threshold_o0 : Fld Z h0 o0 sC0 "threshold" "I" (.int 0)) (F_accessOrder_o0 : Fld Z h0 o0 sC1 "accessOrder" "Z" (.int 0)) (F_head_o0 : Fld Z h0 o0 sC1 "head" "Ljava/util/LinkedHashMap$Entry;" .null) (F_putMode_o0 : Fld Z h0 o0 sC1 "putMode" "I" (.int 0)) (F_tail_o0 : Fld Z h0 o0 sC1 "tail" "Ljava/util/LinkedHashMap$Entry;" .null) (E_o1 : Exa Z h0 o1 sC2) (V_o2 : Arv Z h0 o2 kk_o2 .byte (1 : Int32) [(.int p2)] (.int 0)) (ne_o0_o2 : o0 ≠ o2) (g_o0 : n0 ≤ o0) :
    Pay l Z My24 ws jdk_69_method_16_code 13 (some (.object sC5)) #[(.ref o0), (.int p0), (.ref o1), (.ref o3), (.int 0), (.int 1)] h0 ({ frames := 4, cells := 2, slots := 22, locals := 64 } : Room) (Q24_1 Z w_EMPTY_MAP w_cache w_mir0 w_mir1 z_COMPACT_STRINGS o0 o1 o2 o3 kk_o2 p0 p1 p2 h0 n0) := by
  refine own_body (plainFor_of_name pn_9) (L0 := #[va o0, vi p0, va o1, va o3, vi 0, vi 1, uu, uu, uu, uu, uu, uu, uu]) (fun _ => by first | rfl | (simp [entryFrame, mkF, argsToLocals, Value.category]; done)) ?_
  intro p e s m below meth c s₁ hrt hlk hx hby hml hZ hown0 hnm X0 e0
  have hown : s.vm.findClass sC0 = some m.cls := hown0
  have N0 := Fr.nil n0
  have K0 : Keep h0 h0 [o0] := Keep.refl _ _
  obtain ⟨T1, X1, e1, st1⟩ := getF X0 hx hZ hown (host := "") (Or.inl (ww hw 154 rfl)) Via.refl e0 F_table_o0 (g := (mkF m 1 #[va o0, vi p0, va o1, va o3, vi 0, vi 1, uu, uu, uu, uu, uu, uu, uu] [(.ref o0)])) rfl rfl (hb hby d24_1)
  obtain ⟨cq2, kq2, q2a, q2b, q2c⟩ := isOf hZ e1 E_o0
  obtain ⟨_, _, ⟨T2, L2, k2, n2⟩, -, X2, ⟨Lc2, hQ2, l2, y2, z2⟩, st2⟩ := X1.virtualBack hx (y := My25) (z := My25) hown (mvT hZ (ww hw 156 rfl)) (mvT hZ (ww hw 157 rfl)) (notFace_of_selects (args := #[]) (mvT hZ (ww hw 159 rfl))) (mvT hZ (ww hw 159 rfl)) (mvT hZ (ww hw 158 rfl)) (by decide) (backOf (W := 0) (rm25_0 l Z a0 hw [] w_EMPTY_MAP w_cache w_mir0 w_mir1 z_COMPACT_STRINGS o0 h0 n0 O0 S E_o0 F_loadFactor_o0 F_modCount_o0 F_size_o0 F_table_o0 F_threshold_o0 F_accessOrder_o0 F_head_o0 F_putMode_o0 F_tail_o0 g_o0) hZ (ww hw 160 rfl) (ww hw 85 rfl) (by decide) (by decide)) q2a q2c (g := (mkF m 20 #[va o0, vi p0, va o1, va o3, vi 0, vi 1, .val .null, uu, uu, uu, uu, uu, uu] [(.ref o0)])) rfl (by rw [hml]; rfl) (Steps.refl _) (argsL := []) (rest := []) (lenOf pd_19 rfl) rfl (by show 2 * 0 + _ ≤ _; exact Nat.le_of_eq rfl) (hb hby d24_20) (fun _ _ => ⟨rfl, e1, (by decide : 0 + 1 ≤ _), (by decide : 0 + 16 ≤ _)⟩)
  dsimp only [Pt.U, Pt.locs, Pt.cells, Pt.slots] at X2 l2 y2 z2 st2 hQ2
  subst l2 y2 z2
  obtain ⟨b5_2, k5_2, rfl, Nq2, Kc2, P0_2, P1_2, P2_2, P3_2, P4_2, P5_2, P6_2, P7_2, P8_2, P9_2, P10_2, P11_2⟩ := hQ2
  have N2 := Fr.app N0 Nq2
  have ne_o0_b5_2 : o0 ≠ b5_2 := Nat.ne_of_lt (Nat.lt_of_lt_of_le E_o0.lt P11_2)
  have ne_o1_b5_2 : o1 ≠ b5_2 := Nat.ne_of_lt (Nat.lt_of_lt_of_le E_o1.lt P11_2)
  have ne_o2_b5_2 : o2 ≠ b5_2 := Nat.ne_of_lt (Nat.lt_of_lt_of_le V_o2.lt P11_2)
  have g_b5_2 : n0 ≤ b5_2 := Nat.le_trans (own_old O0) P11_2
  have sz_b5_2 : h0.size ≤ b5_2 := Nat.le_trans K0.1 P11_2
  have O2 := O0.keep Kc2 (allS g_o0 all0)
  have K2 : Keep h0 T2.heap [o0] := K0.trans Kc2 (allS (Or.inl (List.mem_of_getElem? (i := 0) rfl)) all0)
  obtain ⟨⟨cl3, Ar3, qk3, Sz3, Ng3, Hh3, Gg3⟩, Ov3⟩ := id P10_2
  have hin4 : ¬ (((15 : Int32) &&& p0) < 0 ∨ cl3.slots.size ≤ (((15 : Int32) &&& p0)).toNatClampNeg) := inb_of Sz3 (own_and15 _)
  have fc5 := (E_o1.keep Kc2)
  have fc6 := (V_o2.keep Kc2 (ninS (Ne.symm ne_o0_o2) nin0))
  obtain ⟨cq7, kq7, q7a, q7b, q7c⟩ := isOf hZ rfl P0_2
  obtain ⟨_, _, ⟨T7, L7, k7, n7⟩, -, X7, ⟨Lc7, hQ7, l7, y7, z7⟩, st7⟩ := X2.virtualBack hx (y := (⟨sC0, "newNode", "(ILjava/lang/Object;Ljava/lang/Object;Ljava/util/HashMap$Node;)Ljava/util/HashMap$Node;"⟩ : MethodName)) (z := My26) hown (mvT hZ (ww hw 165 rfl)) (mvT hZ (ww hw 166 rfl)) (own_nf (args := #[]) (z := My17) rfl (mvT hZ (ww hw 105 rfl))) (mvT hZ (ww hw 168 rfl)) (mvT hZ (ww hw 169 rfl)) (by decide) (backOf (W := 2) (rm26_1 l Z a0 hw [] w_EMPTY_MAP w_cache w_mir0 w_mir1 z_COMPACT_STRINGS o0 b5_2 o1 o2 o3 k5_2 kk_o2 p0 p1 p2 T2.heap n0 O2 S P0_2 P1_2 P2_2 P3_2 P4_2 P5_2 P6_2 P7_2 P8_2 P9_2 P10_2 fc5 fc6 g_o0) hZ (ww hw 170 rfl) (ww hw 77 rfl) (by decide) (by decide)) q7a q7c (g := (mkF m 56 #[va o0, vi p0, va o1, va o3, vi 0, vi 1, va b5_2, .val .null, vi 16, vi ((15 : Int32) &&& p0), uu, uu, uu] [.null, (.ref o3), (.ref o1), (.int p0), (.ref o0), (.int ((15 : Int32) &&& p0)), (.ref b5_2)])) rfl (by rw [hml]; rfl) (Steps.refl _) (argsL := [(.int p0), (.ref o1), (.ref o3), .null]) (rest := [(.int ((15 : Int32) &&& p0)), (.ref b5_2)]) (lenOf pd_22 rfl) rfl (by show 2 * 0 + _ ≤ _; exact Nat.le_of_eq rfl) (hb hby d24_56) (fun _ _ => ⟨rfl, rfl, (by decide : 1 + 1 ≤ _), (by decide : 16 + 6 ≤ _)⟩)
  dsimp only [Pt.U, Pt.locs, Pt.cells, Pt.slots] at X7 l7 y7 z7 st7 hQ7
  subst l7 y7 z7
  obtain ⟨b1_7, rfl, Nq7, Kc7, P0_7, P1_7, P2_7, P3_7, P4_7, P5_7, P6_7, P7_7, P8_7, P9_7, P10_7, P11_7, P12_7, P13_7, P14_7, P15_7⟩ := hQ7
  have N7 := Fr.app N2 Nq7
  have ne_o0_b1_7 : o0 ≠ b1_7 := Nat.ne_of_lt (Nat.lt_of_lt_of_le P0_2.lt P15_7)
  have ne_o1_b1_7 : o1 ≠ b1_7 := Nat.ne_of_lt (Nat.lt_of_lt_of_le fc5.lt P15_7)
  have ne_o2_b1_7 : o2 ≠ b1_7 := Nat.ne_of_lt (Nat.lt_of_lt_of_le fc6.lt P15_7)
  have ne_b5_2_b1_7 : b5_2 ≠ b1_7 := Nat.ne_of_lt (Nat.lt_of_lt_of_le P10_2.lt P15_7)
  have g_b1_7 : n0 ≤ b1_7 := Nat.le_trans (own_old O2) P15_7
  have sz_b1_7 : h0.size ≤ b1_7 := Nat.le_trans K2.1 P15_7
  have O7 := O2.keep Kc7 (allS g_o0 all0)
  have K7 : Keep h0 T7.heap [o0] := K2.trans Kc7 (allS (Or.inl (List.mem_of_getElem? (i := 0) rfl)) all0)
  have fc8 := (P10_2.keep Kc7 (ninS (Ne.symm ne_o0_b5_2) nin0))
  obtain ⟨⟨cl9, Ar9, qk9, Sz9, Ng9, Hh9, Gg9⟩, Ov9⟩ := id fc8
  have hin10 : ¬ (((15 : Int32) &&& p0) < 0 ∨ cl9.slots.size ≤ (((15 : Int32) &&& p0)).toNatClampNeg) := inb_of Sz9 (own_and15 _)
  obtain ⟨T11, h11, X11, e11, W11, st11⟩ := stR X7 hx hZ rfl Ar9 (j := ((15 : Int32) &&& p0)) hin10 rfl (Sto.ofV Ar9 qk9 Ov9 (Ins.of_exa P10_7 (ww hw 181 rfl))) (g := (mkF m 59 #[va o0, vi p0, va o1, va o3, vi 0, vi 1, va b5_2, .val .null, vi 16, vi ((15 : Int32) &&& p0), uu, uu, uu] [(.ref b1_7), (.int ((15 : Int32) &&& p0)), (.ref b5_2)])) rfl rfl (hb hby d24_59)
  have O11 := O7.wr W11 g_b5_2
  have K11 : Keep h0 h11 [o0] := K7.wr W11 (Or.inr sz_b5_2)
  have N11 := Fr.snoc X11 N7 g_b5_2
  have fc12 := (P2_7.other W11 (Or.inl ne_o0_b5_2))
  obtain ⟨T13, X13, e13, st13⟩ := getF X11 hx hZ hown (host := "") (Or.inl (ww hw 202 rfl)) Via.refl e11 fc12 (g := (mkF m 261 #[va o0, vi p0, va o1, va o3, vi 0, vi 1, va b5_2, .val .null, vi 16, vi ((15 : Int32) &&& p0), uu, uu, uu] [(.ref o0), (.ref o0)])) rfl rfl (hb hby d24_261)
  have fc14 := (P0_7.wr W11)
  obtain ⟨T15, h15, X15, e15, W15, st15⟩ := putF X13 hx hZ hown (host := "") (Or.inl (ww hw 202 rfl)) Via.refl e13 fc12 fc14 (Or.inl (ww hw 203 rfl)) (ww hw 76 rfl) (ty := .int) (by decide) rfl rfl (g := (mkF m 266 #[va o0, vi p0, va o1, va o3, vi 0, vi 1, va b5_2, .val .null, vi 16, vi ((15 : Int32) &&& p0), uu, uu, uu] [(.int 1), (.ref o0)])) rfl rfl (hb hby d24_266)
  have Fw15 := fc12.same W15
  have O15 := O11.wr W15 g_o0
  have K15 : Keep h0 h15 [o0] := K11.wr W15 (Or.inl (List.mem_of_getElem? (i := 0) rfl))
  have N15 := Fr.snoc X15 N11 g_o0
  have fc16 := ((P3_7.other W11 (Or.inl ne_o0_b5_2)).other W15 (Or.inr (slot_ne (Or.inl (ww hw 205 rfl)) (Or.inl (ww hw 203 rfl)) (by decide) (t := .int) (t' := .int) (by decide) (by decide))))
  obtain ⟨T17, X17, e17, st17⟩ := getF X15 hx hZ hown (host := "") (Or.inl (ww hw 204 rfl)) Via.refl e15 fc16 (g := (mkF m 271 #[va o0, vi p0, va o1, va o3, vi 0, vi 1, va b5_2, .val .null, vi 16, vi ((15 : Int32) &&& p0), uu, uu, uu] [(.ref o0), (.ref o0)])) rfl rfl (hb hby d24_271)
  have fc18 := (fc14.wr W15)
  obtain ⟨T19, h19, X19, e19, W19, st19⟩ := putF X17 hx hZ hown (host := "") (Or.inl (ww hw 204 rfl)) Via.refl e17 fc16 fc18 (Or.inl (ww hw 205 rfl)) (ww hw 76 rfl) (ty := .int) (by decide) rfl rfl (g := (mkF m 277 #[va o0, vi p0, va o1, va o3, vi 0, vi 1, va b5_2, .val .null, vi 16, vi ((15 : Int32) &&& p0), uu, uu, uu] [(.int 1), (.ref o0), (.int 1)])) rfl rfl (hb hby d24_277)
  have Fw19 := fc16.same W19
  have O19 := O15.wr W19 g_o0
  have K19 : Keep h0 h19 [o0] := K15.wr W19 (Or.inl (List.mem_of_getElem? (i := 0) rfl))
  have N19 := Fr.snoc X19 N15 g_o0
  have fc20 := (((P5_7.other W11 (Or.inl ne_o0_b5_2)).other W15 (Or.inr (slot_ne (Or.inl (ww hw 162 rfl)) (Or.inl (ww hw 203 rfl)) (by decide) (t := .int) (t' := .int) (by decide) (by decide)))).other W19 (Or.inr (slot_ne (Or.inl (ww hw 162 rfl)) (Or.inl (ww hw 205 rfl)) (by decide) (t := .int) (t' := .int) (by decide) (by decide))))
  obtain ⟨T21, X21, e21, st21⟩ := getF X19 hx hZ hown (host := "") (Or.inl (ww hw 161 rfl)) Via.refl e19 fc20 (g := (mkF m 281 #[va o0, vi p0, va o1, va o3, vi 0, vi 1, va b5_2, .val .null, vi 16, vi ((15 : Int32) &&& p0), uu, uu, uu] [(.ref o0), (.int 1)])) rfl rfl (hb hby d24_281)
  have fc22 := (fc18.wr W19)
  have fc23 := (((P7_7.other W11 (Or.inl ne_o0_b5_2)).other W15 (Or.inr (slot_ne (Or.inl (ww hw 201 rfl)) (Or.inl (ww hw 203 rfl)) (by decide) (t := (.object sC4)) (t' := .int) (by decide) (by decide)))).other W19 (Or.inr (slot_ne (Or.inl (ww hw 201 rfl)) (Or.inl (ww hw 205 rfl)) (by decide) (t := (.object sC4)) (t' := .int) (by decide) (by decide))))
  obtain ⟨cq24, kq24, q24a, q24b, q24c⟩ := isOf hZ e21 fc22
  obtain ⟨_, _, ⟨T24, L24, k24, n24⟩, -, X24, ⟨Lc24, hQ24, l24, y24, z24⟩, st24⟩ := X21.virtualBack hx (y := (⟨sC0, "afterNodeInsertion", "(Z)V"⟩ : MethodName)) (z := My30) hown (mvT hZ (ww hw 206 rfl)) (mvT hZ (ww hw 207 rfl)) (own_nf (args := #[]) (z := My17) rfl (mvT hZ (ww hw 105 rfl))) (mvT hZ (ww hw 209 rfl)) (mvT hZ (ww hw 210 rfl)) (by decide) (backOf (W := 0) (rm30_1 l Z a0 hw [] w_EMPTY_MAP w_cache w_mir0 w_mir1 z_COMPACT_STRINGS o0 b5_2 b1_7 o1 o2 o3 kk_o2 p0 p1 p2 h19 n0 O19 S fc22 fc23) hZ (ww hw 211 rfl) (ww hw 77 rfl) (by decide) (by decide)) q24a q24c (g := (mkF m 295 #[va o0, vi p0, va o1, va o3, vi 0, vi 1, va b5_2, .val .null, vi 16, vi ((15 : Int32) &&& p0), uu, uu, uu] [(.int 1), (.ref o0)])) rfl (by rw [hml]; rfl) (Steps.refl _) (argsL := [(.int 1)]) (rest := []) (lenOf pd_24 rfl) rfl (by show 2 * 0 + _ ≤ _; exact Nat.le_of_eq rfl) (hb hby d24_295) (fun _ _ => ⟨rfl, e21, (by decide : 2 + 0 ≤ _), (by decide : 22 + 0 ≤ _)⟩)
  dsimp only [Pt.U, Pt.locs, Pt.cells, Pt.slots] at X24 l24 y24 z24 st24 hQ24
  subst l24 y24 z24
  obtain ⟨rfl, Nq24, e24⟩ := hQ24
  have N24 := Fr.app N19 Nq24
  obtain ⟨fs, hr, hrun, hended, hW, hsame⟩ := X24.leave (v := (some .null)) (fun h => by rw [hrt] at h; cases h)
  have fc25 := (((P1_7.other W11 (Or.inl ne_o0_b5_2)).other W15 (Or.inr (slot_ne (Or.inr (ww hw 96 rfl)) (Or.inl (ww hw 203 rfl)) (by decide) (t := .float) (t' := .int) (by decide) (by decide)))).other W19 (Or.inr (slot_ne (Or.inr (ww hw 96 rfl)) (Or.inl (ww hw 205 rfl)) (by decide) (t := .float) (t' := .int) (by decide) (by decide))))
  have fc26 := (Fw15.other W19 (Or.inr (slot_ne (Or.inl (ww hw 203 rfl)) (Or.inl (ww hw 205 rfl)) (by decide) (t := .int) (t' := .int) (by decide) (by decide))))
  have fc27 := (((P4_7.other W11 (Or.inl ne_o0_b5_2)).other W15 (Or.inr (slot_ne (Or.inl (ww hw 155 rfl)) (Or.inl (ww hw 203 rfl)) (by decide) (t := (.array (.object sC3))) (t' := .int) (by decide) (by decide)))).other W19 (Or.inr (slot_ne (Or.inl (ww hw 155 rfl)) (Or.inl (ww hw 205 rfl)) (by decide) (t := (.array (.object sC3))) (t' := .int) (by decide) (by decide))))
  have fc28 := (((P6_7.other W11 (Or.inl ne_o0_b5_2)).other W15 (Or.inr (slot_ne (Or.inr (ww hw 100 rfl)) (Or.inl (ww hw 203 rfl)) (by decide) (t := .boolean) (t' := .int) (by decide) (by decide)))).other W19 (Or.inr (slot_ne (Or.inr (ww hw 100 rfl)) (Or.inl (ww hw 205 rfl)) (by decide) (t := .boolean) (t' := .int) (by decide) (by decide))))
  have fc29 := (((P8_7.other W11 (Or.inl ne_o0_b5_2)).other W15 (Or.inr (slot_ne (Or.inl (ww hw 98 rfl)) (Or.inl (ww hw 203 rfl)) (by decide) (t := .int) (t' := .int) (by decide) (by decide)))).other W19 (Or.inr (slot_ne (Or.inl (ww hw 98 rfl)) (Or.inl (ww hw 205 rfl)) (by decide) (t := .int) (t' := .int) (by decide) (by decide))))
  have fc30 := (((P9_7.other W11 (Or.inl ne_o0_b5_2)).other W15 (Or.inr (slot_ne (Or.inl (ww hw 199 rfl)) (Or.inl (ww hw 203 rfl)) (by decide) (t := (.object sC4)) (t' := .int) (by decide) (by decide)))).other W19 (Or.inr (slot_ne (Or.inl (ww hw 199 rfl)) (Or.inl (ww hw 205 rfl)) (by decide) (t := (.object sC4)) (t' := .int) (by decide) (by decide))))
  have fc31 := (((P10_7.wr W11).wr W15).wr W19)
  have fc32 := (((P11_7.other W11 (Or.inl (Ne.symm ne_b5_2_b1_7))).other W15 (Or.inl (Ne.symm ne_o0_b1_7))).other W19 (Or.inl (Ne.symm ne_o0_b1_7)))
  have fc33 := (((P12_7.other W11 (Or.inl (Ne.symm ne_b5_2_b1_7))).other W15 (Or.inl (Ne.symm ne_o0_b1_7))).other W19 (Or.inl (Ne.symm ne_o0_b1_7)))
  have fc34 := (((P13_7.other W11 (Or.inl (Ne.symm ne_b5_2_b1_7))).other W15 (Or.inl (Ne.symm ne_o0_b1_7))).other W19 (Or.inl (Ne.symm ne_o0_b1_7)))
  have fc35 := (((P14_7.other W11 (Or.inl (Ne.symm ne_b5_2_b1_7))).other W15 (Or.inl (Ne.symm ne_o0_b1_7))).other W19 (Or.inl (Ne.symm ne_o0_b1_7)))
  refine ⟨_, _, ?_, hrun, hended, _, _, rfl, ?_, ⟨_, rfl⟩, hW, hsame.mono (by decide) (by decide)⟩
  · show Steps p.tables e below (s₁.setTop (mkF m 0 #[va o0, vi p0, va o1, va o3, vi 0, vi 1, uu, uu, uu, uu, uu, uu, uu] [])) _
    refine XS.aloadN X0.here hx rfl (hb hby d24_0) rfl rfl ?_
    refine st1 _ ?_
    refine XS.dup X1.here hx rfl (hb hby d24_4) rfl rfl ?_
    refine XS.astore X1.here hx rfl (hb hby d24_5) rfl rfl (l' := #[va o0, vi p0, va o1, va o3, vi 0, vi 1, .val .null, uu, uu, uu, uu, uu, uu]) rfl ?_
    refine XS.ifnullYes X1.here hx rfl (pc0 := 7) (pc' := 19) rfl (hb hby d24_7) rfl (by decide) (by decide) ?_
    refine XS.aloadN X1.here hx rfl (hb hby d24_19) rfl rfl ?_
    refine st2.trans ?_
    refine XS.dup X2.here hx rfl (hb hby d24_23) rfl rfl ?_
    show Steps p.tables e below (T2.setTop (mkF m 24 #[va o0, vi p0, va o1, va o3, vi 0, vi 1, .val .null, uu, uu, uu, uu, uu, uu] [(.ref b5_2), (.ref b5_2)])) _
    refine XS.astore X2.here hx rfl (hb hby d24_24) rfl rfl (l' := #[va o0, vi p0, va o1, va o3, vi 0, vi 1, va b5_2, uu, uu, uu, uu, uu, uu]) rfl ?_
    refine X2.arraylength hx Ar3.1 (State.isArrayOf_alike hZ.alike Ar3.2.1) (g := (mkF m 26 #[va o0, vi p0, va o1, va o3, vi 0, vi 1, va b5_2, uu, uu, uu, uu, uu, uu] [(.ref b5_2)])) rfl rfl (hb hby d24_26) _ ?_
    rw [len_of Sz3 Ng3]
    refine XS.istore X2.here hx rfl (hb hby d24_27) rfl (l' := #[va o0, vi p0, va o1, va o3, vi 0, vi 1, va b5_2, uu, vi 16, uu, uu, uu, uu]) rfl ?_
    refine XS.aload X2.here hx rfl (hb hby d24_29) rfl rfl ?_
    refine XS.iload X2.here hx rfl (hb hby d24_31) rfl ?_
    refine XS.iconst X2.here hx rfl (hb hby d24_33) ?_
    refine XS.isub X2.here hx rfl (hb hby d24_34) rfl ?_
    show Steps p.tables e below (T2.setTop (mkF m 35 #[va o0, vi p0, va o1, va o3, vi 0, vi 1, va b5_2, uu, vi 16, uu, uu, uu, uu] [(.int ((16 : Int32) - (1 : Int32))), (.ref b5_2)])) _
    rw [show (((16 : Int32) - (1 : Int32)) : Int32) = (15 : Int32) from by decide]
    refine XS.iloadN X2.here hx rfl (hb hby d24_35) rfl ?_
    refine XS.iand X2.here hx rfl (hb hby d24_36) rfl ?_
    refine XS.dup X2.here hx rfl (hb hby d24_37) rfl rfl ?_
    refine XS.istore X2.here hx rfl (hb hby d24_38) rfl (l' := #[va o0, vi p0, va o1, va o3, vi 0, vi 1, va b5_2, uu, vi 16, vi ((15 : Int32) &&& p0), uu, uu, uu]) rfl ?_
    refine X2.aaload hx (j := ((15 : Int32) &&& p0)) (v := .null) Ar3.1 (State.isArrayOf_alike hZ.alike Ar3.2.1) rfl Ar3.2.2 hin4 (Has.at Hh3 hin4 rfl) (g := (mkF m 40 #[va o0, vi p0, va o1, va o3, vi 0, vi 1, va b5_2, uu, vi 16, vi ((15 : Int32) &&& p0), uu, uu, uu] [(.int ((15 : Int32) &&& p0)), (.ref b5_2)])) rfl rfl (hb hby d24_40) _ ?_
    refine XS.dup X2.here hx rfl (hb hby d24_41) rfl rfl ?_
    refine XS.astore X2.here hx rfl (hb hby d24_42) rfl rfl (l' := #[va o0, vi p0, va o1, va o3, vi 0, vi 1, va b5_2, .val .null, vi 16, vi ((15 : Int32) &&& p0), uu, uu, uu]) rfl ?_
    show Steps p.tables e below (T2.setTop (mkF m 44 #[va o0, vi p0, va o1, va o3, vi 0, vi 1, va b5_2, .val .null, vi 16, vi ((15 : Int32) &&& p0), uu, uu, uu] [.null])) _
    refine XS.ifnonnullNo X2.here hx rfl (hb hby d24_44) rfl ?_
    refine XS.aload X2.here hx rfl (hb hby d24_47) rfl rfl ?_
    refine XS.iload X2.here hx rfl (hb hby d24_49) rfl ?_
    refine XS.aloadN X2.here hx rfl (hb hby d24_51) rfl rfl ?_
    refine XS.iloadN X2.here hx rfl (hb hby d24_52) rfl ?_
    refine XS.aloadN X2.here hx rfl (hb hby d24_53) rfl rfl ?_
    refine XS.aloadN X2.here hx rfl (hb hby d24_54) rfl rfl ?_
    refine XS.aconstNull X2.here hx rfl (hb hby d24_55) ?_
    show Steps p.tables e below (T2.setTop (mkF m 56 #[va o0, vi p0, va o1, va o3, vi 0, vi 1, va b5_2, .val .null, vi 16, vi ((15 : Int32) &&& p0), uu, uu, uu] [.null, (.ref o3), (.ref o1), (.int p0), (.ref o0), (.int ((15 : Int32) &&& p0)), (.ref b5_2)])) _
    refine st7.trans ?_
    refine st11 _ ?_
    refine XS.goto X11.here hx rfl (pc0 := 60) (pc' := 259) rfl (hb hby d24_60) (by decide) (by decide) ?_
    refine XS.aloadN X11.here hx rfl (hb hby d24_259) rfl rfl ?_
    refine XS.dup X11.here hx rfl (hb hby d24_260) rfl rfl ?_
    refine st13 _ ?_
    refine XS.iconst X13.here hx rfl (hb hby d24_264) ?_
    refine XS.iadd X13.here hx rfl (hb hby d24_265) rfl ?_
    show Steps p.tables e below (T13.setTop (mkF m 266 #[va o0, vi p0, va o1, va o3, vi 0, vi 1, va b5_2, .val .null, vi 16, vi ((15 : Int32) &&& p0), uu, uu, uu] [(.int ((0 : Int32) + (1 : Int32))), (.ref o0)])) _
    rw [show (((0 : Int32) + (1 : Int32)) : Int32) = (1 : Int32) from by decide]
    refine st15 _ ?_
    refine XS.aloadN X15.here hx rfl (hb hby d24_269) rfl rfl ?_
    refine XS.dup X15.here hx rfl (hb hby d24_270) rfl rfl ?_
    refine st17 _ ?_
    refine XS.iconst X17.here hx rfl (hb hby d24_274) ?_
    refine XS.iadd X17.here hx rfl (hb hby d24_275) rfl ?_
    show Steps p.tables e below (T17.setTop (mkF m 276 #[va o0, vi p0, va o1, va o3, vi 0, vi 1, va b5_2, .val .null, vi 16, vi ((15 : Int32) &&& p0), uu, uu, uu] [(.int ((0 : Int32) + (1 : Int32))), (.ref o0)])) _
    rw [show (((0 : Int32) + (1 : Int32)) : Int32) = (1 : Int32) from by decide]
    refine XS.dupX1 X17.here hx rfl (hb hby d24_276) rfl rfl rfl ?_
    refine st19 _ ?_
    refine XS.aloadN X19.here hx rfl (hb hby d24_280) rfl rfl ?_
    refine st21 _ ?_
    refine XS.icmpYes X21.here hx rfl (pc0 := 284) (pc' := 292) rfl (hb hby d24_284) rfl (flt (by decide : ¬ ((12 : Int32) < (1 : Int32)))).2.2.2 (by decide) (by decide) ?_
    refine XS.aloadN X21.here hx rfl (hb hby d24_292) rfl rfl ?_
    refine XS.iload X21.here hx rfl (hb hby d24_293) rfl ?_
    show Steps p.tables e below (T21.setTop (mkF m 295 #[va o0, vi p0, va o1, va o3, vi 0, vi 1, va b5_2, .val .null, vi 16, vi ((15 : Int32) &&& p0), uu, uu, uu] [(.int 1), (.ref o0)])) _
    refine st24.trans ?_
    refine XS.aconstNull X24.here hx rfl (hb hby d24_298) ?_
    exact retOut X24 hx (t := (.object sC5)) (i := .areturn) hrt rfl (Or.inr (Or.inr (Or.inr (Or.inr ⟨rfl, rfl, rfl⟩)))) (hb hby d24_299) hr
  · show Q24_1 Z w_EMPTY_MAP w_cache w_mir0 w_mir1 z_COMPACT_STRINGS o0 o1 o2 o3 kk_o2 p0 p1 p2 h0 n0 (some .null) T24.heap _
    rw [e24]; exact ⟨b5_2, b1_7, rfl, N24, K19, fc22, fc25, fc26, Fw19, fc27, fc20, fc28, fc23, fc29, fc30, fc31, fc32, fc33, fc34, fc35, sz_b5_2, sz_b1_7, ne_b5_2_b1_7⟩
def Q19_1 (Z : State) (w_EMPTY_MAP w_cache w_mir0 w_mir1 : Addr) (z_COMPACT_STRINGS : Int32) (o0 : Addr) (o1 : Addr) (o2 : Addr) (o3 : Addr) (kk_o2 : ClassId) (p0 : Int32) (h0 : Heap) (n0 : Nat) (v : Option Value) (h : Heap) (L : List Loc) : Prop := ∃ (b5_2_13 : Addr), ∃ (b1_7_13 : Addr), v = (some .null) ∧ Fr n0 L ∧ Keep h0 h [o1, o0] ∧ Exa Z h o0 sC1 ∧ Fld Z h o0 sC0 "loadFactor" "F" (.float (1061158912 : UInt32)) ∧ Fld Z h o0 sC0 "modCount" "I" (.int 1) ∧ Fld Z h o0 sC0 "size" "I" (.int 1) ∧ Fld Z h o0 sC0 "table" "[Ljava/util/HashMap$Node;" (.ref b5_2_13) ∧ Fld Z h o0 sC0 "threshold" "I" (.int 12) ∧ Fld Z h o0 sC1 "accessOrder" "Z" (.int 0) ∧ Fld Z h o0 sC1 "head" "Ljava/util/LinkedHashMap$Entry;" (.ref b1_7_13) ∧ Fld Z h o0 sC1 "putMode" "I" (.int 0) ∧ Fld Z h o0 sC1 "tail" "Ljava/util/LinkedHashMap$Entry;" (.ref b1_7_13) ∧ Exa Z h o1 sC2 ∧ Fld Z h o1 sC2 "coder" "B" (.int 0) ∧ Fld Z h o1 sC2 "hash" "I" (.int (p0 &&& (255 : Int32))) ∧ Fld Z h o1 sC2 "hashIsZero" "Z" (.int 0) ∧ Fld Z h o1 sC2 "value" "[B" (.ref o2) ∧ Exa Z h b1_7_13 sC4 ∧ Fld Z h b1_7_13 sC3 "hash" "I" (.int ((p0 &&& (255 : Int32)) ^^^ (((p0 &&& (255 : Int32)).toUInt32 >>> ((16 : Int32) &&& 31).toUInt32).toInt32))) ∧ Fld Z h b1_7_13 sC3 "key" "Ljava/lang/Object;" (.ref o1) ∧ Fld Z h b1_7_13 sC3 "next" "Ljava/util/HashMap$Node;" .null ∧ Fld Z h b1_7_13 sC3 "value" "Ljava/lang/Object;" (.ref o3) ∧ h0.size ≤ b5_2_13 ∧ h0.size ≤ b1_7_13 ∧ b5_2_13 ≠ b1_7_13
theorem rm19_1 (l : Launch) (Z : State) (a0 : Array Value) (hw : HW Z a0) (ws : List Jvm.Cond) (w_EMPTY_MAP w_cache w_mir0 w_mir1 : Addr) (z_COMPACT_STRINGS : Int32) (o0 : Addr) (o1 : Addr) (o2 : Addr) (o3 : Addr) (kk_o2 : ClassId) (p0 : Int32) (h0 : Heap) (n0 : Nat) (O0 : Old Z n0 h0) (S : SF Z w_EMPTY_MAP w_cache w_mir0 w_mir1 z_COMPACT_STRINGS) (E_o0 : Exa Z h0 o0 sC1) (F_loadFactor_o0 : Fld Z h0 o0 sC0 "loadFactor" "F" (.float (1061158912 : UInt32))) (F_modCount_o0 : Fld Z h0 o0 sC0 "modCount" "I" (.int 0)) (F_size_o0 : Fld Z h0 o0 sC0 "size" "I" (.int 0)) (F_table_o0 : Fld Z h0 o0 sC0 "table" "[Ljava/util/HashMap$Node;" .null) (F_threshold_o0 : Fld Z h0 o0 sC0 "threshold" "I" (.int 0)) (F_accessOrder_o0 : Fld Z h0 o0 sC1 "accessOrder" "Z" (.int 0)) (F_head_o0 : Fld Z h0 o0 sC1 "head" "Ljava/util/LinkedHashMap$Entry;" .null) (F_putMode_o0 : Fld Z h0 o0 sC1 "putMode" "I" (.int 0)) (F_tail_o0 : Fld Z h0 o0 sC1 "tail" "Ljava/util/LinkedHashMap$Entry;" .null) (E_o1 : Exa Z h0 o1 sC2) (F_coder_o1 : Fld Z h0 o1 sC2 "coder" "B" (.int 0)) (F_hash_o1 : Fld Z h0 o1 sC2 "hash" "I" (.int 0)) (F_hashIsZero_o1 : Fld Z h0 o1 sC2 "hashIsZero" "Z" (.int 0)) (F_value_o1 : Fld Z h0 o1 sC2 "value" "[B" (.ref o2)) (V_o2 : Arv Z h0 o2 kk_o2 .byte (1 : Int32) [(.int p0)] (.int 0)) (ne_o0_o1 : o0 ≠ o1) (ne_o0_o2 : o0 ≠ o2) (ne_o1_o2 : o1 ≠ o2) (g_o0 : n0 ≤ o0) (g_o1 : n0 ≤ o1) (hc0 : ¬ ((p0 &&& (255 : Int32)) = (0 : Int32))) :
    Pay l Z My19 ws jdk_69_method_15_code 3 (some (.object sC5)) #[(.ref o0), (.ref o1), (.ref o3)] h0 ({ frames := 5, cells := 2, slots := 22, locals := 88 } : Room) (Q19_1 Z w_EMPTY_MAP w_cache w_mir0 w_mir1 z_COMPACT_STRINGS o0 o1 o2 o3 kk_o2 p0 h0 n0) := by
  refine own_body (plainFor_of_name pn_9) (L0 := #[va o0, va o1, va o3]) (fun _ => by first | rfl | (simp [entryFrame, mkF, argsToLocals, Value.category]; done)) ?_
  intro p e s m below meth c s₁ hrt hlk hx hby hml hZ hown0 hnm X0 e0
  have hown : s.vm.findClass sC0 = some m.cls := hown0
  have N0 := Fr.nil n0
  have K0 : Keep h0 h0 [o1, o0] := Keep.refl _ _
  obtain ⟨_, _, ⟨T1, L1, k1, n1⟩, -, X1, ⟨Lc1, hQ1, l1, y1, z1⟩, st1⟩ := Jvm.LawKit.callS X0 hx (y := My20) hown (mvT hZ (ww hw 128 rfl)) (mvT hZ (ww hw 129 rfl)) (mvT hZ (ww hw 85 rfl)) (mvT hZ (ww hw 130 rfl)) (by decide) (backOf (W := 1) (rm20_1 l Z a0 hw [] w_EMPTY_MAP w_cache w_mir0 w_mir1 z_COMPACT_STRINGS o1 o2 kk_o2 p0 h0 n0 O0 S E_o1 F_coder_o1 F_hash_o1 F_hashIsZero_o1 F_value_o1 V_o2 g_o1 hc0) hZ (ww hw 130 rfl) (ww hw 85 rfl) (by decide) (by decide)) (g := (mkF m 2 #[va o0, va o1, va o3] [(.ref o1), (.ref o0)])) rfl (by rw [hml]; rfl) (argsL := [(.ref o1)]) (rest := [(.ref o0)]) (lenOf pd_18 rfl) rfl (by show 2 * 0 + _ ≤ _; exact Nat.le_of_eq rfl) (hb hby d19_2) (fun _ _ => ⟨rfl, e0, (by decide : 0 + 0 ≤ _), (by decide : 0 + 0 ≤ _)⟩)
  dsimp only [Pt.U, Pt.locs, Pt.cells, Pt.slots] at X1 l1 y1 z1 st1 hQ1
  subst l1 y1 z1
  obtain ⟨rfl, Nq1, Kc1, P0_1, P1_1, P2_1, P3_1, P4_1⟩ := hQ1
  have N1 := Fr.app N0 Nq1
  have O1 := O0.keep Kc1 (allS g_o1 all0)
  have K1 : Keep h0 T1.heap [o1, o0] := K0.trans Kc1 (allS (Or.inl (List.mem_of_getElem? (i := 0) rfl)) all0)
  have fc2 := (E_o0.keep Kc1)
  have fc3 := (F_loadFactor_o0.keep Kc1 (ninS ne_o0_o1 nin0))
  have fc4 := (F_modCount_o0.keep Kc1 (ninS ne_o0_o1 nin0))
  have fc5 := (F_size_o0.keep Kc1 (ninS ne_o0_o1 nin0))
  have fc6 := (F_table_o0.keep Kc1 (ninS ne_o0_o1 nin0))
  have fc7 := (F_threshold_o0.keep Kc1 (ninS ne_o0_o1 nin0))
  have fc8 := (F_accessOrder_o0.keep Kc1 (ninS ne_o0_o1 nin0))
  have fc9 := (F_head_o0.keep Kc1 (ninS ne_o0_o1 nin0))
  have fc10 := (F_putMode_o0.keep Kc1 (ninS ne_o0_o1 nin0))
  have fc11 := (F_tail_o0.keep Kc1 (ninS ne_o0_o1 nin0))
  have fc12 := (V_o2.keep Kc1 (ninS (Ne.symm ne_o1_o2) nin0))
  obtain ⟨cq13, kq13, q13a, q13b, q13c⟩ := isOf hZ rfl fc2
  obtain ⟨_, _, ⟨T13, L13, k13, n13⟩, -, X13, ⟨Lc13, hQ13, l13, y13, z13⟩, st13⟩ := X1.virtualBack hx (y := My24) (z := My24) hown (mvT hZ (ww hw 149 rfl)) (mvT hZ (ww hw 150 rfl)) (notFace_of_selects (args := #[]) (mvT hZ (ww hw 152 rfl))) (mvT hZ (ww hw 152 rfl)) (mvT hZ (ww hw 151 rfl)) (by decide) (backOf (W := 0) (rm24_1 l Z a0 hw [] w_EMPTY_MAP w_cache w_mir0 w_mir1 z_COMPACT_STRINGS o0 o1 o2 o3 kk_o2 ((p0 &&& (255 : Int32)) ^^^ (((p0 &&& (255 : Int32)).toUInt32 >>> ((16 : Int32) &&& 31).toUInt32).toInt32)) (p0 &&& (255 : Int32)) p0 T1.heap n0 O1 S fc2 fc3 fc4 fc5 fc6 fc7 fc8 fc9 fc10 fc11 P0_1 fc12 ne_o0_o2 g_o0) hZ (ww hw 153 rfl) (ww hw 85 rfl) (by decide) (by decide)) q13a q13c (g := (mkF m 9 #[va o0, va o1, va o3] [(.int 1), (.int 0), (.ref o3), (.ref o1), (.int ((p0 &&& (255 : Int32)) ^^^ (((p0 &&& (255 : Int32)).toUInt32 >>> ((16 : Int32) &&& 31).toUInt32).toInt32))), (.ref o0)])) rfl (by rw [hml]; rfl) (Steps.refl _) (argsL := [(.int ((p0 &&& (255 : Int32)) ^^^ (((p0 &&& (255 : Int32)).toUInt32 >>> ((16 : Int32) &&& 31).toUInt32).toInt32))), (.ref o1), (.ref o3), (.int 0), (.int 1)]) (rest := []) (lenOf pd_25 rfl) rfl (by show 2 * 0 + _ ≤ _; exact Nat.le_of_eq rfl) (hb hby d19_9) (fun _ _ => ⟨rfl, rfl, (by decide : 0 + 2 ≤ _), (by decide : 0 + 22 ≤ _)⟩)
  dsimp only [Pt.U, Pt.locs, Pt.cells, Pt.slots] at X13 l13 y13 z13 st13 hQ13
  subst l13 y13 z13
  obtain ⟨b5_2_13, b1_7_13, rfl, Nq13, Kc13, P0_13, P1_13, P2_13, P3_13, P4_13, P5_13, P6_13, P7_13, P8_13, P9_13, P10_13, P11_13, P12_13, P13_13, P14_13, P15_13, P16_13, P17_13⟩ := hQ13
  have N13 := Fr.app N1 Nq13
  have ne_o0_b5_2_13 : o0 ≠ b5_2_13 := Nat.ne_of_lt (Nat.lt_of_lt_of_le fc2.lt P15_13)
  have ne_o1_b5_2_13 : o1 ≠ b5_2_13 := Nat.ne_of_lt (Nat.lt_of_lt_of_le P0_1.lt P15_13)
  have ne_o2_b5_2_13 : o2 ≠ b5_2_13 := Nat.ne_of_lt (Nat.lt_of_lt_of_le fc12.lt P15_13)
  have ne_o0_b1_7_13 : o0 ≠ b1_7_13 := Nat.ne_of_lt (Nat.lt_of_lt_of_le fc2.lt P16_13)
  have ne_o1_b1_7_13 : o1 ≠ b1_7_13 := Nat.ne_of_lt (Nat.lt_of_lt_of_le P0_1.lt P16_13)
  have ne_o2_b1_7_13 : o2 ≠ b1_7_13 := Nat.ne_of_lt (Nat.lt_of_lt_of_le fc12.lt P16_13)
  have g_b5_2_13 : n0 ≤ b5_2_13 := Nat.le_trans (own_old O1) P15_13
  have sz_b5_2_13 : h0.size ≤ b5_2_13 := Nat.le_trans K1.1 P15_13
  have g_b1_7_13 : n0 ≤ b1_7_13 := Nat.le_trans (own_old O1) P16_13
  have sz_b1_7_13 : h0.size ≤ b1_7_13 := Nat.le_trans K1.1 P16_13
  have O13 := O1.keep Kc13 (allS g_o0 all0)
  have K13 : Keep h0 T13.heap [o1, o0] := K1.trans Kc13 (allS (Or.inl (List.mem_of_getElem? (i := 1) rfl)) all0)
  obtain ⟨fs, hr, hrun, hended, hW, hsame⟩ := X13.leave (v := (some .null)) (fun h => by rw [hrt] at h; cases h)
  have fc14 := (P0_1.keep Kc13)
  have fc15 := (P1_1.keep Kc13 (ninS (Ne.symm ne_o0_o1) nin0))
  have fc16 := (P2_1.keep Kc13 (ninS (Ne.symm ne_o0_o1) nin0))
  have fc17 := (P3_1.keep Kc13 (ninS (Ne.symm ne_o0_o1) nin0))
  have fc18 := (P4_1.keep Kc13 (ninS (Ne.symm ne_o0_o1) nin0))
  refine ⟨_, _, ?_, hrun, hended, _, _, rfl, ?_, ⟨_, rfl⟩, hW, hsame.mono (by decide) (by decide)⟩
  · show Steps p.tables e below (s₁.setTop (mkF m 0 #[va o0, va o1, va o3] [])) _
    refine XS.aloadN X0.here hx rfl (hb hby d19_0) rfl rfl ?_
    refine XS.aloadN X0.here hx rfl (hb hby d19_1) rfl rfl ?_
    refine st1 _ ?_
    refine XS.aloadN X1.here hx rfl (hb hby d19_5) rfl rfl ?_
    refine XS.aloadN X1.here hx rfl (hb hby d19_6) rfl rfl ?_
    refine XS.iconst X1.here hx rfl (hb hby d19_7) ?_
    refine XS.iconst X1.here hx rfl (hb hby d19_8) ?_
    refine st13.trans ?_
    show Steps p.tables e below (T13.setTop (mkF m 12 #[va o0, va o1, va o3] [.null])) _
    exact retOut X13 hx (t := (.object sC5)) (i := .areturn) hrt rfl (Or.inr (Or.inr (Or.inr (Or.inr ⟨rfl, rfl, rfl⟩)))) (hb hby d19_12) hr
  · show Q19_1 Z w_EMPTY_MAP w_cache w_mir0 w_mir1 z_COMPACT_STRINGS o0 o1 o2 o3 kk_o2 p0 h0 n0 (some .null) T13.heap _
    exact (⟨b5_2_13, b1_7_13, rfl, N13, K13, P0_13, P1_13, P2_13, P3_13, P4_13, P5_13, P6_13, P7_13, P8_13, P9_13, fc14, fc15, fc16, fc17, fc18, P10_13, P11_13, P12_13, P13_13, P14_13, sz_b5_2_13, sz_b1_7_13, P17_13⟩)
def Q33_1 (Z : State) (w_EMPTY_MAP w_cache w_mir0 w_mir1 : Addr) (z_COMPACT_STRINGS : Int32) (o0 : Addr) (o1 : Addr) (o2 : Addr) (o3 : Addr) (o4 : Addr) (o5 : Addr) (o6 : Addr) (kk_o5 : ClassId) (p0 : Int32) (p1 : Int32) (p2 : Int32) (h0 : Heap) (n0 : Nat) (v : Option Value) (h : Heap) (L : List Loc) : Prop := v = none ∧ Fr n0 L ∧ Keep h0 h [o0] ∧ Exa Z h o0 sC10 ∧ Fld Z h o0 sC10 "m" "Ljava/util/Map;" (.ref o1)
theorem rm33_1 (l : Launch) (Z : State) (a0 : Array Value) (hw : HW Z a0) (ws : List Jvm.Cond) (w_EMPTY_MAP w_cache w_mir0 w_mir1 : Addr) (z_COMPACT_STRINGS : Int32) (o0 : Addr) (o1 : Addr) (o2 : Addr) (o3 : Addr) (o4 : Addr) (o5 : Addr) (o6 : Addr) (kk_o5 : ClassId) (p0 : Int32) (p1 : Int32) (p2 : Int32) (h0 : Heap) (n0 : Nat) (O0 : Old Z n0 h0) (S : SF Z w_EMPTY_MAP w_cache w_mir0 w_mir1 z_COMPACT_STRINGS) (E_o0 : Exa Z h0 o0 sC10) (F_m_o0 : Fld Z h0 o0 sC10 "m" "Ljava/util/Map;" .null) (g_o0 : n0 ≤ o0) :
    Pay l Z My33 ws jdk_2500_method_1_code 2 none #[(.ref o0), (.ref o1)] h0 ({ frames := 1, cells := 0, slots := 0, locals := 12 } : Room) (Q33_1 Z w_EMPTY_MAP w_cache w_mir0 w_mir1 z_COMPACT_STRINGS o0 o1 o2 o3 o4 o5 o6 kk_o5 p0 p1 p2 h0 n0) := by
  refine own_body (plainFor_of_name pn_15) (L0 := #[va o0, va o1]) (fun _ => by first | rfl | (simp [entryFrame, mkF, argsToLocals, Value.category]; done)) ?_
  intro p e s m below meth c s₁ hrt hlk hx hby hml hZ hown0 hnm X0 e0
  have hown : s.vm.findClass sC10 = some m.cls := hown0
  have N0 := Fr.nil n0
  have K0 : Keep h0 h0 [o0] := Keep.refl _ _
  obtain ⟨T1, X1, e1, st1⟩ := initO X0 hx hZ hown (ww hw 237 rfl) (ww hw 16 rfl) (ww hw 17 rfl) e0 (g := (mkF m 1 #[va o0, va o1] [(.ref o0)])) rfl (by rw [hml]; rfl) rfl (hb hby d33_1) (by decide) (W := 0) (by show 2 * 0 + _ ≤ _; exact Nat.le_of_eq rfl) (by decide)
  obtain ⟨T2, h2, X2, e2, W2, st2⟩ := putF X1 hx hZ hown (host := "") (Or.inl (ww hw 238 rfl)) Via.refl e1 F_m_o0 E_o0 (Or.inr ⟨(ww hw 239 rfl), rfl, hnm⟩) (ww hw 232 rfl) (ty := (.object sC6)) (by decide) rfl rfl (g := (mkF m 18 #[va o0, va o1] [(.ref o1), (.ref o0)])) rfl rfl (hb hby d33_18)
  have Fw2 := F_m_o0.same W2
  have O2 := O0.wr W2 g_o0
  have K2 : Keep h0 h2 [o0] := K0.wr W2 (Or.inl (List.mem_of_getElem? (i := 0) rfl))
  have N2 := Fr.snoc X2 N0 g_o0
  obtain ⟨fs, hr, hrun, hended, hW, hsame⟩ := X2.leave (v := none) (fun _ => rfl)
  have fc3 := (E_o0.wr W2)
  refine ⟨_, _, ?_, hrun, hended, _, _, rfl, ?_, ⟨_, rfl⟩, hW, hsame.mono (by decide) (by decide)⟩
  · show Steps p.tables e below (s₁.setTop (mkF m 0 #[va o0, va o1] [])) _
    refine XS.aloadN X0.here hx rfl (hb hby d33_0) rfl rfl ?_
    refine st1 _ ?_
    refine XS.aloadN X1.here hx rfl (hb hby d33_4) rfl rfl ?_
    refine XS.ifnonnullYes X1.here hx rfl (pc0 := 5) (pc' := 16) rfl (hb hby d33_5) rfl (by decide) (by decide) ?_
    refine XS.aloadN X1.here hx rfl (hb hby d33_16) rfl rfl ?_
    refine XS.aloadN X1.here hx rfl (hb hby d33_17) rfl rfl ?_
    refine st2 _ ?_
    exact X2.returnOut hx hrt (hb hby d33_21) hr
  · show Q33_1 Z w_EMPTY_MAP w_cache w_mir0 w_mir1 z_COMPACT_STRINGS o0 o1 o2 o3 o4 o5 o6 kk_o5 p0 p1 p2 h0 n0 none T2.heap _
    rw [e2]; exact ⟨rfl, N2, K2, fc3, Fw2⟩
def Q32_2 (Z : State) (w_EMPTY_MAP w_cache w_mir0 w_mir1 : Addr) (z_COMPACT_STRINGS : Int32) (o0 : Addr) (o1 : Addr) (o2 : Addr) (o3 : Addr) (o4 : Addr) (o5 : Addr) (kk_o4 : ClassId) (p0 : Int32) (p1 : Int32) (p2 : Int32) (h0 : Heap) (n0 : Nat) (v : Option Value) (h : Heap) (L : List Loc) : Prop := ∃ (b3 : Addr), v = (some (.ref b3)) ∧ Fr n0 L ∧ Keep h0 h [] ∧ Exa Z h b3 sC10 ∧ Fld Z h b3 sC10 "m" "Ljava/util/Map;" (.ref o0) ∧ h0.size ≤ b3
theorem rm32_2 (l : Launch) (Z : State) (a0 : Array Value) (hw : HW Z a0) (ws : List Jvm.Cond) (w_EMPTY_MAP w_cache w_mir0 w_mir1 : Addr) (z_COMPACT_STRINGS : Int32) (o0 : Addr) (o1 : Addr) (o2 : Addr) (o3 : Addr) (o4 : Addr) (o5 : Addr) (kk_o4 : ClassId) (p0 : Int32) (p1 : Int32) (p2 : Int32) (h0 : Heap) (n0 : Nat) (O0 : Old Z n0 h0) (S : SF Z w_EMPTY_MAP w_cache w_mir0 w_mir1 z_COMPACT_STRINGS) (E_o0 : Exa Z h0 o0 sC1) (E_o2 : Exa Z h0 o2 sC4) (E_o3 : Exa Z h0 o3 sC2) (V_o4 : Arv Z h0 o4 kk_o4 .byte (1 : Int32) [(.int p2)] (.int 0)) (hc0 : ¬ (w_mir0 = w_mir1)) :
    Pay l Z My32 ws jdk_79_method_36_code 1 (some (.object sC6)) #[(.ref o0)] h0 ({ frames := 2, cells := 1, slots := 4, locals := 26 } : Room) (Q32_2 Z w_EMPTY_MAP w_cache w_mir0 w_mir1 z_COMPACT_STRINGS o0 o1 o2 o3 o4 o5 kk_o4 p0 p1 p2 h0 n0) := by
  obtain ⟨M_w_mir0, M_w_mir1, -⟩ := id S
  refine own_body (plainFor_of_name pn_14) (L0 := #[va o0]) (fun _ => by first | rfl | (simp [entryFrame, mkF, argsToLocals, Value.category]; done)) ?_
  intro p e s m below meth c s₁ hrt hlk hx hby hml hZ hown0 hnm X0 e0
  have hown : s.vm.findClass "java/util/Collections" = some m.cls := hown0
  have N0 := Fr.nil n0
  have K0 : Keep h0 h0 [] := Keep.refl _ _
  obtain ⟨T1, X1, e1, st1⟩ := own_gclsI X0 hx hZ hown (xi := (⟨sC6, "getClass", "()Ljava/lang/Class;"⟩ : MethodName)) (ww hw 221 rfl) (ww hw 222 rfl) (ww hw 223 rfl) (ww hw 224 rfl) (ww hw 225 rfl) (ww hw 226 rfl) (ww hw 227 rfl) (ww hw 126 rfl) (ww hw 228 rfl) (by decide) (by decide) rfl rfl e0 E_o0 M_w_mir0 (g := (mkF m 1 #[va o0] [(.ref o0)])) rfl (by rw [hml]; rfl) rfl (hb hby d32_1) (by decide) (W := 0) (by show 2 * 0 + _ ≤ _; exact Nat.le_of_eq rfl) (by decide)
  obtain ⟨T2, X2, e2, st2⟩ := own_ldcM X1 hx hZ hown (ww hw 230 rfl) e1 M_w_mir1 (g := (mkF m 6 #[va o0] [(.ref w_mir0)])) rfl (hb hby d32_6)
  obtain ⟨T3, h3, X3, e3, E3, A3, D3, -, st3⟩ := newO X2 hx hZ hown (ww hw 230 rfl) (ww hw 232 rfl) (ww hw 233 rfl) e2 (g := (mkF m 13 #[va o0] [])) rfl (hb hby d32_13) (by decide) (by decide)
  obtain ⟨b3, qs3⟩ : ∃ z, z = h0.size := ⟨_, rfl⟩
  rw [← qs3] at A3 D3 st3
  have ne_o0_b3 : o0 ≠ b3 := Nat.ne_of_lt (Nat.lt_of_lt_of_le E_o0.lt (Nat.le_of_eq qs3.symm))
  have ne_o2_b3 : o2 ≠ b3 := Nat.ne_of_lt (Nat.lt_of_lt_of_le E_o2.lt (Nat.le_of_eq qs3.symm))
  have ne_o3_b3 : o3 ≠ b3 := Nat.ne_of_lt (Nat.lt_of_lt_of_le E_o3.lt (Nat.le_of_eq qs3.symm))
  have ne_o4_b3 : o4 ≠ b3 := Nat.ne_of_lt (Nat.lt_of_lt_of_le V_o4.lt (Nat.le_of_eq qs3.symm))
  have g_b3 : n0 ≤ b3 := Nat.le_trans (own_old O0) (Nat.le_of_eq qs3.symm)
  have sz_b3 : h0.size ≤ b3 := Nat.le_trans K0.1 (Nat.le_of_eq qs3.symm)
  have O3 := O0.ext E3
  have K3 : Keep h0 h3 [] := K0.ext E3
  have F_m_b3 : Fld Z h3 b3 sC10 "m" "Ljava/util/Map;" .null := D3 (Or.inr (ww hw 239 rfl)) (ty := (.object sC6)) (by decide)
  obtain ⟨_, _, ⟨T4, L4, k4, n4⟩, -, X4, ⟨Lc4, hQ4, l4, y4, z4⟩, st4⟩ := X3.specialBack hx (y := My33) rfl hown (mvT hZ (ww hw 234 rfl)) (mvT hZ (ww hw 235 rfl)) (mvT hZ (ww hw 236 rfl)) (by decide) (backOf (W := 1) (rm33_1 l Z a0 hw [] w_EMPTY_MAP w_cache w_mir0 w_mir1 z_COMPACT_STRINGS b3 o0 o1 o2 o3 o4 o5 kk_o4 p0 p1 p2 h3 n0 O3 S A3 F_m_b3 g_b3) hZ (ww hw 236 rfl) (ww hw 233 rfl) (by decide) (by decide)) (g := (mkF m 18 #[va o0] [(.ref o0), (.ref b3), (.ref b3)])) rfl (by rw [hml]; rfl) (Steps.refl _) (a := b3) (argsL := [(.ref o0)]) (rest := [(.ref b3)]) (lenOf pd_15 rfl) rfl (by show 2 * 0 + _ ≤ _; exact Nat.le_of_eq rfl) (hb hby d32_18) (fun _ _ => ⟨rfl, e3, (by decide : 1 + 0 ≤ _), (by decide : 4 + 0 ≤ _)⟩)
  dsimp only [Pt.U, Pt.locs, Pt.cells, Pt.slots] at X4 l4 y4 z4 st4 hQ4
  subst l4 y4 z4
  have fc5 := (E_o0.ext E3)
  have fc6 := (E_o2.ext E3)
  have fc7 := (E_o3.ext E3)
  have fc8 := (V_o4.ext E3)
  obtain ⟨rfl, Nq4, Kc4, P0_4, P1_4⟩ := hQ4
  have N4 := Fr.app N0 Nq4
  have O4 := O3.keep Kc4 (allS g_b3 all0)
  have K4 : Keep h0 T4.heap [] := K3.trans Kc4 (allS (Or.inr sz_b3) all0)
  obtain ⟨fs, hr, hrun, hended, hW, hsame⟩ := X4.leave (v := (some (.ref b3))) (fun h => by rw [hrt] at h; cases h)
  refine ⟨_, _, ?_, hrun, hended, _, _, rfl, ?_, ⟨_, rfl⟩, hW, hsame.mono (by decide) (by decide)⟩
  · show Steps p.tables e below (s₁.setTop (mkF m 0 #[va o0] [])) _
    refine XS.aloadN X0.here hx rfl (hb hby d32_0) rfl rfl ?_
    refine st1 _ ?_
    refine st2 _ ?_
    refine Jvm.RoadKit.acmp (g := (mkF m 8 #[va o0] [(.ref w_mir1), (.ref w_mir0)])) X2 hx rfl rfl rfl (pc0 := 8) (pc' := 13) (same := false) rfl (hb hby d32_8) rfl (decide_eq_false fun q => hc0 (Value.ref.inj q)) (by decide) (by decide) ?_
    refine st3 _ ?_
    refine XS.dup X3.here hx rfl (hb hby d32_16) rfl rfl ?_
    refine XS.aloadN X3.here hx rfl (hb hby d32_17) rfl rfl ?_
    refine st4.trans ?_
    show Steps p.tables e below (T4.setTop (mkF m 21 #[va o0] [(.ref b3)])) _
    exact retOut X4 hx (t := (.object sC6)) (i := .areturn) hrt rfl (Or.inr (Or.inr (Or.inr (Or.inr ⟨rfl, rfl, rfl⟩)))) (hb hby d32_21) hr
  · show Q32_2 Z w_EMPTY_MAP w_cache w_mir0 w_mir1 z_COMPACT_STRINGS o0 o1 o2 o3 o4 o5 kk_o4 p0 p1 p2 h0 n0 (some (.ref b3)) T4.heap _
    exact (⟨b3, rfl, N4, K4, P0_4, P1_4, sz_b3⟩)
def Q32_3 (Z : State) (w_EMPTY_MAP w_cache w_mir0 w_mir1 : Addr) (z_COMPACT_STRINGS : Int32) (o0 : Addr) (o1 : Addr) (o2 : Addr) (o3 : Addr) (o4 : Addr) (o5 : Addr) (kk_o4 : ClassId) (p0 : Int32) (p1 : Int32) (p2 : Int32) (h0 : Heap) (n0 : Nat) (v : Option Value) (h : Heap) (L : List Loc) : Prop := v = (some (.ref o0)) ∧ Fr n0 L ∧ h = h0
theorem rm32_3 (l : Launch) (Z : State) (a0 : Array Value) (hw : HW Z a0) (ws : List Jvm.Cond) (w_EMPTY_MAP w_cache w_mir0 w_mir1 : Addr) (z_COMPACT_STRINGS : Int32) (o0 : Addr) (o1 : Addr) (o2 : Addr) (o3 : Addr) (o4 : Addr) (o5 : Addr) (kk_o4 : ClassId) (p0 : Int32) (p1 : Int32) (p2 : Int32) (h0 : Heap) (n0 : Nat) (O0 : Old Z n0 h0) (S : SF Z w_EMPTY_MAP w_cache w_mir0 w_mir1 z_COMPACT_STRINGS) (E_o0 : Exa Z h0 o0 sC1) (hc0 : w_mir0 = w_mir1) :
    Pay l Z My32 ws jdk_79_method_36_code 1 (some (.object sC6)) #[(.ref o0)] h0 ({ frames := 2, cells := 1, slots := 4, locals := 26 } : Room) (Q32_3 Z w_EMPTY_MAP w_cache w_mir0 w_mir1 z_COMPACT_STRINGS o0 o1 o2 o3 o4 o5 kk_o4 p0 p1 p2 h0 n0) := by
  obtain ⟨M_w_mir0, M_w_mir1, -⟩ := id S
  refine own_body (plainFor_of_name pn_14) (L0 := #[va o0]) (fun _ => by first | rfl | (simp [entryFrame, mkF, argsToLocals, Value.category]; done)) ?_
  intro p e s m below meth c s₁ hrt hlk hx hby hml hZ hown0 hnm X0 e0
  have hown : s.vm.findClass "java/util/Collections" = some m.cls := hown0
  have N0 := Fr.nil n0
  have K0 : Keep h0 h0 [] := Keep.refl _ _
  obtain ⟨T1, X1, e1, st1⟩ := own_gclsI X0 hx hZ hown (xi := (⟨sC6, "getClass", "()Ljava/lang/Class;"⟩ : MethodName)) (ww hw 221 rfl) (ww hw 222 rfl) (ww hw 223 rfl) (ww hw 224 rfl) (ww hw 225 rfl) (ww hw 226 rfl) (ww hw 227 rfl) (ww hw 126 rfl) (ww hw 228 rfl) (by decide) (by decide) rfl rfl e0 E_o0 M_w_mir0 (g := (mkF m 1 #[va o0] [(.ref o0)])) rfl (by rw [hml]; rfl) rfl (hb hby d32_1) (by decide) (W := 0) (by show 2 * 0 + _ ≤ _; exact Nat.le_of_eq rfl) (by decide)
  obtain ⟨T2, X2, e2, st2⟩ := own_ldcM X1 hx hZ hown (ww hw 230 rfl) e1 M_w_mir1 (g := (mkF m 6 #[va o0] [(.ref w_mir0)])) rfl (hb hby d32_6)
  obtain ⟨fs, hr, hrun, hended, hW, hsame⟩ := X2.leave (v := (some (.ref o0))) (fun h => by rw [hrt] at h; cases h)
  refine ⟨_, _, ?_, hrun, hended, _, _, rfl, ?_, ⟨_, rfl⟩, hW, hsame.mono (by decide) (by decide)⟩
  · show Steps p.tables e below (s₁.setTop (mkF m 0 #[va o0] [])) _
    refine XS.aloadN X0.here hx rfl (hb hby d32_0) rfl rfl ?_
    refine st1 _ ?_
    refine st2 _ ?_
    refine Jvm.RoadKit.acmp (g := (mkF m 8 #[va o0] [(.ref w_mir1), (.ref w_mir0)])) X2 hx rfl rfl rfl (pc0 := 8) (pc' := 11) (same := true) rfl (hb hby d32_8) rfl (decide_eq_true (congrArg Value.ref hc0)) (by decide) (by decide) ?_
    refine XS.aloadN X2.here hx rfl (hb hby d32_11) rfl rfl ?_
    exact retOut X2 hx (t := (.object sC6)) (i := .areturn) hrt rfl (Or.inr (Or.inr (Or.inr (Or.inr ⟨rfl, rfl, rfl⟩)))) (hb hby d32_12) hr
  · show Q32_3 Z w_EMPTY_MAP w_cache w_mir0 w_mir1 z_COMPACT_STRINGS o0 o1 o2 o3 o4 o5 kk_o4 p0 p1 p2 h0 n0 (some (.ref o0)) T2.heap _
    exact (⟨rfl, N0, e2⟩)
def Qb2 (h0 : Heap) (n0 : Nat) (v : Option Value) (h : Heap) (L : List Loc) : Prop := ∃ (r : Addr), v = some (.ref r) ∧ Fr n0 L ∧ Keep h0 h []
theorem bm2 (l : Launch) (Z : State) (a0 : Array Value) (hw : HW Z a0) (ws : List Jvm.Cond) (w_EMPTY_MAP w_cache w_mir0 w_mir1 : Addr) (z_COMPACT_STRINGS : Int32) (o0 : Addr) (o1 : Addr) (o2 : Addr) (o3 : Addr) (o4 : Addr) (o5 : Addr) (kk_o4 : ClassId) (p0 : Int32) (p1 : Int32) (p2 : Int32) (h0 : Heap) (n0 : Nat) (O0 : Old Z n0 h0) (S : SF Z w_EMPTY_MAP w_cache w_mir0 w_mir1 z_COMPACT_STRINGS) (E_o0 : Exa Z h0 o0 sC1) (E_o2 : Exa Z h0 o2 sC4) (E_o3 : Exa Z h0 o3 sC2) (V_o4 : Arv Z h0 o4 kk_o4 .byte (1 : Int32) [(.int p2)] (.int 0)) :
    Pay l Z My32 ws jdk_79_method_36_code 1 (some (.object sC6)) #[(.ref o0)] h0 ({ frames := 2, cells := 1, slots := 4, locals := 26 } : Room) (Qb2 h0 n0) := by
  by_cases hm0 : w_mir0 = w_mir1
  · refine MetFree.mono (rm32_3 l Z a0 hw ws w_EMPTY_MAP w_cache w_mir0 w_mir1 z_COMPACT_STRINGS o0 o1 o2 o3 o4 o5 kk_o4 p0 p1 p2 h0 n0 O0 S E_o0 hm0) (fun _ _ q => q) (fun _ _ _ _ _ q => q) ?_
    rintro _ U o U' - ⟨v, L, rfl, ⟨rfl, N, K⟩, fe⟩
    exact ⟨_, L, rfl, ⟨o0, rfl, N, by rw [K]; exact Keep.refl _ _⟩, fe⟩
  · refine MetFree.mono (rm32_2 l Z a0 hw ws w_EMPTY_MAP w_cache w_mir0 w_mir1 z_COMPACT_STRINGS o0 o1 o2 o3 o4 o5 kk_o4 p0 p1 p2 h0 n0 O0 S E_o0 E_o2 E_o3 V_o4 hm0) (fun _ _ q => q) (fun _ _ _ _ _ q => q) ?_
    rintro _ U o U' - ⟨v, L, rfl, ⟨f0, rfl, N, K, q0, q1, q2⟩, fe⟩
    exact ⟨_, L, rfl, ⟨f0, rfl, N, K⟩, fe⟩
def Q10_1 (Z : State) (w_EMPTY_MAP w_cache w_mir0 w_mir1 : Addr) (z_COMPACT_STRINGS : Int32) (o0 : Addr) (o1 : Addr) (o2 : Addr) (o3 : Addr) (kk_o2 : ClassId) (p0 : Int32) (h0 : Heap) (n0 : Nat) (v : Option Value) (h : Heap) (L : List Loc) : Prop := ∃ (b61 : Addr), ∃ (r_68 : Addr), v = (some (.ref b61)) ∧ Fr n0 L ∧ Keep h0 h [o1] ∧ Exa Z h o1 sC2 ∧ Fld Z h o1 sC2 "coder" "B" (.int 0) ∧ Fld Z h o1 sC2 "hash" "I" (.int (p0 &&& (255 : Int32))) ∧ Fld Z h o1 sC2 "hashIsZero" "Z" (.int 0) ∧ Fld Z h o1 sC2 "value" "[B" (.ref o2) ∧ Exa Z h b61 sC7 ∧ Fld Z h b61 sC7 "errorMessage" "Ljava/lang/String;" .null ∧ Fld Z h b61 sC7 "values" "Ljava/util/Map;" (.ref r_68) ∧ h0.size ≤ b61
theorem rm10_1 (l : Launch) (Z : State) (a0 : Array Value) (hw : HW Z a0) (ws : List Jvm.Cond) (w_EMPTY_MAP w_cache w_mir0 w_mir1 : Addr) (z_COMPACT_STRINGS : Int32) (o0 : Addr) (o1 : Addr) (o2 : Addr) (o3 : Addr) (kk_o2 : ClassId) (p0 : Int32) (h0 : Heap) (n0 : Nat) (O0 : Old Z n0 h0) (S : SF Z w_EMPTY_MAP w_cache w_mir0 w_mir1 z_COMPACT_STRINGS) (E_o0 : Exa Z h0 o0 sC7) (F_errorMessage_o0 : Fld Z h0 o0 sC7 "errorMessage" "Ljava/lang/String;" .null) (F_values_o0 : Fld Z h0 o0 sC7 "values" "Ljava/util/Map;" (.ref w_EMPTY_MAP)) (E_o1 : Exa Z h0 o1 sC2) (F_coder_o1 : Fld Z h0 o1 sC2 "coder" "B" (.int 0)) (F_hash_o1 : Fld Z h0 o1 sC2 "hash" "I" (.int 0)) (F_hashIsZero_o1 : Fld Z h0 o1 sC2 "hashIsZero" "Z" (.int 0)) (F_value_o1 : Fld Z h0 o1 sC2 "value" "[B" (.ref o2)) (V_o2 : Arv Z h0 o2 kk_o2 .byte (1 : Int32) [(.int p0)] (.int 0)) (ne_o0_o1 : o0 ≠ o1) (ne_o1_o2 : o1 ≠ o2) (g_o0 : n0 ≤ o0) (g_o1 : n0 ≤ o1) (g_o2 : n0 ≤ o2) (hc0 : ¬ ((p0 &&& (255 : Int32)) = (0 : Int32))) :
    PayE n0 l Z My10 ws prog_19_method_4_code 4 (some (.object sC7)) #[(.ref o0), (.ref o1), (.ref o3)] h0 ({ frames := 6, cells := 11, slots := 96, locals := 102 } : Room) (Q10_1 Z w_EMPTY_MAP w_cache w_mir0 w_mir1 z_COMPACT_STRINGS o0 o1 o2 o3 kk_o2 p0 h0 n0) := by
  refine own_bodyE (plainFor_of_name pn_1) (L0 := #[va o0, va o1, va o3, uu]) (fun _ => by first | rfl | (simp [entryFrame, mkF, argsToLocals, Value.category]; done)) ?_
  intro p e s m below meth c s₁ hrt hlk hx hby hml hZ hown0 hnm X0 e0 hCH
  have hown : s.vm.findClass sC7 = some m.cls := hown0
  have N0 := Fr.nil n0
  have K0 : Keep h0 h0 [o1] := Keep.refl _ _
  obtain ⟨a1, T1, h1, kk1, b1, k1, X1, e1, E1, hS1, hk1, hZ1, hown1, Ea1, Fc1, Fv1, Vb1, -, -, hC1, -, hD1, st1⟩ := ldcCH (s := s) (vm0 := s.vm) X0 hx hZ hown (ww hw 58 rfl) (own_wS hw) e0 ((State.WarmedH.refl s).since 0) (Nat.zero_le _) (own_EW hw) (List.mem_of_getElem? (i := 0) rfl) hCH.1 (vs := [.int (110 : Int32), .int (97 : Int32), .int (109 : Int32), .int (101 : Int32)]) (z := (4 : Int32)) ⟨by first | decide +kernel | decide, by first | rfl | decide +kernel⟩ (by decide) (by decide) (g := (mkF m 1 #[va o0, va o1, va o3, uu] [(.ref o1)])) rfl (hb hby d10_1) (n := 16) (by decide +kernel) (by decide) (by decide) (by decide)
  have sf1_o0 := hC1.safe E_o0.lt (fun B => absurd (hCH.2 _ B) (Nat.not_lt_of_le g_o0))
  have sf1_o1 := hC1.safe E_o1.lt (fun B => absurd (hCH.2 _ B) (Nat.not_lt_of_le g_o1))
  have sf1_o2 := hC1.safe V_o2.lt (fun B => absurd (hCH.2 _ B) (Nat.not_lt_of_le g_o2))
  have O1 := O0.ext E1
  have K1 : Keep h0 h1 [o1] := K0.ext E1
  obtain ⟨_, _, ⟨T2, L2, k2, n2⟩, -, X2, ⟨Lc2, hQ2, l2, y2, z2⟩, st2⟩ := Jvm.LawKit.callS X1 hx (y := (⟨"java/util/Objects", "requireNonNull", "(Ljava/lang/Object;Ljava/lang/String;)Ljava/lang/Object;"⟩ : MethodName)) hown1 (mvT hZ1 (ww hw 61 rfl)) (mvT hZ1 (ww hw 62 rfl)) (mvT hZ1 (ww hw 63 rfl)) (mvT hZ1 (ww hw 64 rfl)) (by decide) (backOf (W := 0) (rm11_0 l Z a0 hw [] w_EMPTY_MAP w_cache w_mir0 w_mir1 z_COMPACT_STRINGS o1 o2 a1 b1 kk_o2 k1 p0 h1 n0 O1 S) hZ1 (ww hw 64 rfl) (ww hw 63 rfl) (by decide) (by decide)) (g := (mkF m 3 #[va o0, va o1, va o3, uu] [(.ref a1), (.ref o1)])) rfl (by rw [hml]; rfl) (argsL := [(.ref o1), (.ref a1)]) (rest := []) (lenOf pd_10 rfl) rfl (by show 2 * 0 + _ ≤ _; exact Nat.le_of_eq rfl) (hb hby d10_3) (fun _ _ => ⟨rfl, e1, (by decide : 2 + 0 ≤ _), (by decide : 20 + 0 ≤ _)⟩)
  dsimp only [Pt.U, Pt.locs, Pt.cells, Pt.slots] at X2 l2 y2 z2 st2 hQ2
  subst l2 y2 z2
  obtain ⟨rfl, Nq2, e2⟩ := hQ2
  have N2 := Fr.app N0 Nq2
  have fc4 := (E_o0.ext E1)
  have fc5 := (E_o1.ext E1)
  have fc6 := (V_o2.ext E1)
  obtain ⟨a3, T3, h3, kk3, b3, k3, X3, e3, E3, hS3, hk3, hZ3, hown3, Ea3, Fc3, Fv3, Vb3, -, -, hC3, -, hD3, st3⟩ := ldcCH (s := s) (vm0 := T1.vm) X2 hx hZ1 hown1 (ww hw 65 rfl) (own_wS hw) e2 hS1 hk1 (own_EW hw) (List.mem_of_getElem? (i := 1) rfl) hC1.1 (vs := [.int (111 : Int32), .int (107 : Int32)]) (z := (2 : Int32)) ⟨by first | decide +kernel | decide, by first | rfl | decide +kernel⟩ (by decide) (by decide) (g := (mkF m 8 #[va o0, va o1, va o3, uu] [(.ref o1)])) rfl (hb hby d10_8) (n := 8) (by decide +kernel) (by decide) (by decide) (by decide)
  have sf3_o0 := hC3.safe fc4.lt sf1_o0
  have sf3_o1 := hC3.safe fc5.lt sf1_o1
  have sf3_o2 := hC3.safe fc6.lt sf1_o2
  have O3 := O1.ext E3
  have K3 : Keep h0 h3 [o1] := K1.ext E3
  have fc7 := ((F_coder_o1.ext E1).ext E3)
  have fc8 := ((F_value_o1.ext E1).ext E3)
  have fc9 := (fc6.ext E3)
  have fc11 := (fc5.ext E3)
  obtain ⟨cq10, kq10, q10a, q10b, q10c⟩ := isOf hZ3 e3 fc11
  obtain ⟨_, _, ⟨T10, L10, k10, n10⟩, -, X10, ⟨Lc10, hQ10, l10, y10, z10⟩, st10⟩ := X3.virtualBack hx (y := My12) (z := My12) hown3 (mvT hZ3 (ww hw 66 rfl)) (mvT hZ3 (ww hw 67 rfl)) (notFace_of_selects (args := #[]) (mvT hZ3 (ww hw 69 rfl))) (mvT hZ3 (ww hw 69 rfl)) (mvT hZ3 (ww hw 68 rfl)) (by decide) (backOf (W := 0) (rm12_0 l Z a0 hw [] w_EMPTY_MAP w_cache w_mir0 w_mir1 z_COMPACT_STRINGS o1 o2 a3 b3 kk_o2 k3 p0 h3 n0 O3 S fc7 fc8 fc9 Ea3 Fc3 Fv3 Vb3 (hD3 _ sf3_o1).1) hZ3 (ww hw 70 rfl) (ww hw 24 rfl) (by decide) (by decide)) q10a q10c (g := (mkF m 10 #[va o0, va o1, va o3, uu] [(.ref a3), (.ref o1)])) rfl (by rw [hml]; rfl) (Steps.refl _) (argsL := [(.ref a3)]) (rest := []) (lenOf pd_12 rfl) rfl (by show 2 * 0 + _ ≤ _; exact Nat.le_of_eq rfl) (hb hby d10_10) (fun _ _ => ⟨rfl, e3, (by decide : 4 + 0 ≤ _), (by decide : 32 + 0 ≤ _)⟩)
  dsimp only [Pt.U, Pt.locs, Pt.cells, Pt.slots] at X10 l10 y10 z10 st10 hQ10
  subst l10 y10 z10
  obtain ⟨rfl, Nq10, e10⟩ := hQ10
  have N10 := Fr.app N2 Nq10
  have fc13 := (fc4.ext E3)
  have fc14 := (Ea1.ext E3)
  have fc15 := (Vb1.ext E3)
  obtain ⟨a12, T12, h12, kk12, b12, k12, X12, e12, E12, hS12, hk12, hZ12, hown12, Ea12, Fc12, Fv12, Vb12, -, -, hC12, -, hD12, st12⟩ := ldcCH (s := s) (vm0 := T3.vm) X10 hx hZ3 hown3 (ww hw 74 rfl) (own_wS hw) e10 hS3 hk3 (own_EW hw) (List.mem_of_getElem? (i := 2) rfl) hC3.1 (vs := [.int (101 : Int32), .int (114 : Int32), .int (114 : Int32), .int (111 : Int32), .int (114 : Int32)]) (z := (5 : Int32)) ⟨by first | decide +kernel | decide, by first | rfl | decide +kernel⟩ (by decide) (by decide) (g := (mkF m 17 #[va o0, va o1, va o3, uu] [(.ref o1)])) rfl (hb hby d10_17) (n := 20) (by decide +kernel) (by decide) (by decide) (by decide)
  have sf12_o0 := hC12.safe fc13.lt sf3_o0
  have sf12_o1 := hC12.safe fc11.lt sf3_o1
  have sf12_o2 := hC12.safe fc9.lt sf3_o2
  have O12 := O3.ext E12
  have K12 : Keep h0 h12 [o1] := K3.ext E12
  have fc16 := (fc7.ext E12)
  have fc17 := (fc8.ext E12)
  have fc18 := (fc9.ext E12)
  have fc20 := (fc11.ext E12)
  obtain ⟨cq19, kq19, q19a, q19b, q19c⟩ := isOf hZ12 e12 fc20
  obtain ⟨_, _, ⟨T19, L19, k19, n19⟩, -, X19, ⟨Lc19, hQ19, l19, y19, z19⟩, st19⟩ := X12.virtualBack hx (y := My12) (z := My12) hown12 (mvT hZ12 (ww hw 66 rfl)) (mvT hZ12 (ww hw 67 rfl)) (notFace_of_selects (args := #[]) (mvT hZ12 (ww hw 69 rfl))) (mvT hZ12 (ww hw 69 rfl)) (mvT hZ12 (ww hw 68 rfl)) (by decide) (backOf (W := 0) (rm12_1 l Z a0 hw [] w_EMPTY_MAP w_cache w_mir0 w_mir1 z_COMPACT_STRINGS o1 o2 a12 b12 kk_o2 k12 p0 h12 n0 O12 S fc16 fc17 fc18 Ea12 Fc12 Fv12 Vb12 (hD12 _ sf12_o1).1) hZ12 (ww hw 70 rfl) (ww hw 24 rfl) (by decide) (by decide)) q19a q19c (g := (mkF m 19 #[va o0, va o1, va o3, uu] [(.ref a12), (.ref o1)])) rfl (by rw [hml]; rfl) (Steps.refl _) (argsL := [(.ref a12)]) (rest := []) (lenOf pd_12 rfl) rfl (by show 2 * 0 + _ ≤ _; exact Nat.le_of_eq rfl) (hb hby d10_19) (fun _ _ => ⟨rfl, e12, (by decide : 6 + 0 ≤ _), (by decide : 56 + 0 ≤ _)⟩)
  dsimp only [Pt.U, Pt.locs, Pt.cells, Pt.slots] at X19 l19 y19 z19 st19 hQ19
  subst l19 y19 z19
  obtain ⟨rfl, Nq19, e19⟩ := hQ19
  have N19 := Fr.app N10 Nq19
  have fc21 := (fc13.ext E12)
  have fc22 := (fc14.ext E12)
  have fc23 := (fc15.ext E12)
  have fc24 := (Ea3.ext E12)
  have fc25 := (Vb3.ext E12)
  obtain ⟨T26, h26, X26, e26, E26, A26, D26, -, st26⟩ := newO X19 hx hZ12 hown12 (ww hw 75 rfl) (ww hw 76 rfl) (ww hw 77 rfl) e19 (g := (mkF m 39 #[va o0, va o1, va o3, uu] [])) rfl (hb hby d10_39) (by decide) (by decide)
  obtain ⟨b26, qs26⟩ : ∃ z, z = h12.size := ⟨_, rfl⟩
  rw [← qs26] at A26 D26 st26
  have ne_o0_b26 : o0 ≠ b26 := Nat.ne_of_lt (Nat.lt_of_lt_of_le fc21.lt (Nat.le_of_eq qs26.symm))
  have ne_o1_b26 : o1 ≠ b26 := Nat.ne_of_lt (Nat.lt_of_lt_of_le fc20.lt (Nat.le_of_eq qs26.symm))
  have ne_o2_b26 : o2 ≠ b26 := Nat.ne_of_lt (Nat.lt_of_lt_of_le fc18.lt (Nat.le_of_eq qs26.symm))
  have ne_a1_b26 : a1 ≠ b26 := Nat.ne_of_lt (Nat.lt_of_lt_of_le fc22.lt (Nat.le_of_eq qs26.symm))
  have ne_b1_b26 : b1 ≠ b26 := Nat.ne_of_lt (Nat.lt_of_lt_of_le fc23.lt (Nat.le_of_eq qs26.symm))
  have ne_a3_b26 : a3 ≠ b26 := Nat.ne_of_lt (Nat.lt_of_lt_of_le fc24.lt (Nat.le_of_eq qs26.symm))
  have ne_b3_b26 : b3 ≠ b26 := Nat.ne_of_lt (Nat.lt_of_lt_of_le fc25.lt (Nat.le_of_eq qs26.symm))
  have ne_a12_b26 : a12 ≠ b26 := Nat.ne_of_lt (Nat.lt_of_lt_of_le Ea12.lt (Nat.le_of_eq qs26.symm))
  have ne_b12_b26 : b12 ≠ b26 := Nat.ne_of_lt (Nat.lt_of_lt_of_le Vb12.lt (Nat.le_of_eq qs26.symm))
  have g_b26 : n0 ≤ b26 := Nat.le_trans (own_old O12) (Nat.le_of_eq qs26.symm)
  have sz_b26 : h0.size ≤ b26 := Nat.le_trans K12.1 (Nat.le_of_eq qs26.symm)
  have O26 := O12.ext E26
  have K26 : Keep h0 h26 [o1] := K12.ext E26
  have F_loadFactor_b26 : Fld Z h26 b26 sC0 "loadFactor" "F" (.float (0 : UInt32)) := D26 (Or.inr (ww hw 96 rfl)) (ty := .float) (by decide)
  have F_putMode_b26 : Fld Z h26 b26 sC1 "putMode" "I" (.int 0) := D26 (Or.inl (ww hw 98 rfl)) (ty := .int) (by decide)
  have F_accessOrder_b26 : Fld Z h26 b26 sC1 "accessOrder" "Z" (.int 0) := D26 (Or.inr (ww hw 100 rfl)) (ty := .boolean) (by decide)
  have F_table_b26 : Fld Z h26 b26 sC0 "table" "[Ljava/util/HashMap$Node;" .null := D26 (Or.inl (ww hw 155 rfl)) (ty := (.array (.object sC3))) (by decide)
  have F_threshold_b26 : Fld Z h26 b26 sC0 "threshold" "I" (.int 0) := D26 (Or.inl (ww hw 162 rfl)) (ty := .int) (by decide)
  have F_tail_b26 : Fld Z h26 b26 sC1 "tail" "Ljava/util/LinkedHashMap$Entry;" .null := D26 (Or.inl (ww hw 199 rfl)) (ty := (.object sC4)) (by decide)
  have F_head_b26 : Fld Z h26 b26 sC1 "head" "Ljava/util/LinkedHashMap$Entry;" .null := D26 (Or.inl (ww hw 201 rfl)) (ty := (.object sC4)) (by decide)
  have F_modCount_b26 : Fld Z h26 b26 sC0 "modCount" "I" (.int 0) := D26 (Or.inl (ww hw 203 rfl)) (ty := .int) (by decide)
  have F_size_b26 : Fld Z h26 b26 sC0 "size" "I" (.int 0) := D26 (Or.inl (ww hw 205 rfl)) (ty := .int) (by decide)
  have fc27 := ((((F_values_o0.ext E1).ext E3).ext E12).ext E26)
  obtain ⟨T28, X28, e28, st28⟩ := getF X26 hx hZ12 hown12 (host := "") (Or.inl (ww hw 20 rfl)) Via.refl e26 fc27 (g := (mkF m 44 #[va o0, va o1, va o3, uu] [(.ref o0), (.ref b26), (.ref b26)])) rfl rfl (hb hby d10_44)
  obtain ⟨_, _, ⟨T29, L29, k29, n29⟩, -, X29, ⟨Lc29, hQ29, l29, y29, z29⟩, st29⟩ := X28.specialBack hx (y := (⟨sC1, "<init>", "(Ljava/util/Map;)V"⟩ : MethodName)) rfl hown12 (mvT hZ12 (ww hw 78 rfl)) (mvT hZ12 (ww hw 79 rfl)) (mvT hZ12 (ww hw 80 rfl)) (by decide) (backOf (W := 1) (rm14_0 l Z a0 hw [] w_EMPTY_MAP w_cache w_mir0 w_mir1 z_COMPACT_STRINGS b26 h26 n0 O26 S A26 F_loadFactor_b26 F_modCount_b26 F_size_b26 F_table_b26 F_threshold_b26 F_accessOrder_b26 F_head_b26 F_putMode_b26 F_tail_b26 g_b26) hZ12 (ww hw 80 rfl) (ww hw 77 rfl) (by decide) (by decide)) (g := (mkF m 47 #[va o0, va o1, va o3, uu] [(.ref w_EMPTY_MAP), (.ref b26), (.ref b26)])) rfl (by rw [hml]; rfl) (Steps.refl _) (a := b26) (argsL := [(.ref w_EMPTY_MAP)]) (rest := [(.ref b26)]) (lenOf pd_15 rfl) rfl (by show 2 * 0 + _ ≤ _; exact Nat.le_of_eq rfl) (hb hby d10_47) (fun _ _ => ⟨rfl, e28, (by decide : 7 + 0 ≤ _), (by decide : 68 + 0 ≤ _)⟩)
  dsimp only [Pt.U, Pt.locs, Pt.cells, Pt.slots] at X29 l29 y29 z29 st29 hQ29
  subst l29 y29 z29
  have fc30 := (fc21.ext E26)
  have fc31 := (fc20.ext E26)
  have fc32 := (fc18.ext E26)
  have fc33 := (fc22.ext E26)
  have fc34 := (fc23.ext E26)
  have fc35 := (fc24.ext E26)
  have fc36 := (fc25.ext E26)
  have fc37 := (Ea12.ext E26)
  have fc38 := (Vb12.ext E26)
  obtain ⟨rfl, Nq29, Kc29, P0_29, P1_29, P2_29, P3_29, P4_29, P5_29, P6_29, P7_29, P8_29, P9_29⟩ := hQ29
  have N29 := Fr.app N19 Nq29
  have O29 := O26.keep Kc29 (allS g_b26 all0)
  have K29 : Keep h0 T29.heap [o1] := K26.trans Kc29 (allS (Or.inr sz_b26) all0)
  have fc39 := (fc31.keep Kc29)
  have fc40 := ((fc16.ext E26).keep Kc29 (ninS ne_o1_b26 nin0))
  have fc41 := (((((F_hash_o1.ext E1).ext E3).ext E12).ext E26).keep Kc29 (ninS ne_o1_b26 nin0))
  have fc42 := (((((F_hashIsZero_o1.ext E1).ext E3).ext E12).ext E26).keep Kc29 (ninS ne_o1_b26 nin0))
  have fc43 := ((fc17.ext E26).keep Kc29 (ninS ne_o1_b26 nin0))
  have fc44 := (fc32.keep Kc29 (ninS ne_o2_b26 nin0))
  obtain ⟨cq45, kq45, q45a, q45b, q45c⟩ := isOf hZ12 rfl P0_29
  obtain ⟨_, _, ⟨T45, L45, k45, n45⟩, -, X45, ⟨Lc45, hQ45, l45, y45, z45⟩, st45⟩ := X29.interfaceBack hx (xi := (⟨sC6, "put", "(Ljava/lang/Object;Ljava/lang/Object;)Ljava/lang/Object;"⟩ : MethodName)) (y := My19) hown12 (mvT hZ12 (ww hw 119 rfl)) (mvT hZ12 (ww hw 120 rfl)) (mvT hZ12 (ww hw 121 rfl)) (mvT hZ12 (ww hw 122 rfl)) (mvT hZ12 (ww hw 123 rfl)) (mvT hZ12 (ww hw 124 rfl)) (mvT hZ12 (ww hw 125 rfl)) (mvT hZ12 (ww hw 126 rfl)) (by decide) (backOf (W := 0) (rm19_1 l Z a0 hw [] w_EMPTY_MAP w_cache w_mir0 w_mir1 z_COMPACT_STRINGS b26 o1 o2 o3 kk_o2 p0 T29.heap n0 O29 S P0_29 P1_29 P2_29 P3_29 P4_29 P5_29 P6_29 P7_29 P8_29 P9_29 fc39 fc40 fc41 fc42 fc43 fc44 (Ne.symm ne_o1_b26) (Ne.symm ne_o2_b26) ne_o1_o2 g_b26 g_o1 hc0) hZ12 (ww hw 127 rfl) (ww hw 85 rfl) (by decide) (by decide)) q45a q45b q45c (g := (mkF m 54 #[va o0, va o1, va o3, va b26] [(.ref o3), (.ref o1), (.ref b26)])) rfl (by rw [hml]; rfl) (Steps.refl _) (argsL := [(.ref o1), (.ref o3)]) (rest := []) (lenOf pd_26 rfl) rfl (by show 2 * 0 + _ ≤ _; exact Nat.le_of_eq rfl) (hb hby d10_54) (fun _ _ => ⟨rfl, rfl, (by decide : 7 + 2 ≤ _), (by decide : 68 + 22 ≤ _)⟩)
  dsimp only [Pt.U, Pt.locs, Pt.cells, Pt.slots] at X45 l45 y45 z45 st45 hQ45
  subst l45 y45 z45
  have fc46 := (fc30.keep Kc29)
  have fc47 := (fc33.keep Kc29)
  have fc48 := (fc34.keep Kc29 (ninS ne_b1_b26 nin0))
  have fc49 := (fc35.keep Kc29)
  have fc50 := (fc36.keep Kc29 (ninS ne_b3_b26 nin0))
  have fc51 := (fc37.keep Kc29)
  have fc52 := (fc38.keep Kc29 (ninS ne_b12_b26 nin0))
  obtain ⟨b5_2_13_45, b1_7_13_45, rfl, Nq45, Kc45, P0_45, P1_45, P2_45, P3_45, P4_45, P5_45, P6_45, P7_45, P8_45, P9_45, P10_45, P11_45, P12_45, P13_45, P14_45, P15_45, P16_45, P17_45, P18_45, P19_45, P20_45, P21_45, P22_45⟩ := hQ45
  have N45 := Fr.app N29 Nq45
  have ne_o0_b5_2_13_45 : o0 ≠ b5_2_13_45 := Nat.ne_of_lt (Nat.lt_of_lt_of_le fc46.lt P20_45)
  have ne_o1_b5_2_13_45 : o1 ≠ b5_2_13_45 := Nat.ne_of_lt (Nat.lt_of_lt_of_le fc39.lt P20_45)
  have ne_o2_b5_2_13_45 : o2 ≠ b5_2_13_45 := Nat.ne_of_lt (Nat.lt_of_lt_of_le fc44.lt P20_45)
  have ne_a1_b5_2_13_45 : a1 ≠ b5_2_13_45 := Nat.ne_of_lt (Nat.lt_of_lt_of_le fc47.lt P20_45)
  have ne_b1_b5_2_13_45 : b1 ≠ b5_2_13_45 := Nat.ne_of_lt (Nat.lt_of_lt_of_le fc48.lt P20_45)
  have ne_a3_b5_2_13_45 : a3 ≠ b5_2_13_45 := Nat.ne_of_lt (Nat.lt_of_lt_of_le fc49.lt P20_45)
  have ne_b3_b5_2_13_45 : b3 ≠ b5_2_13_45 := Nat.ne_of_lt (Nat.lt_of_lt_of_le fc50.lt P20_45)
  have ne_a12_b5_2_13_45 : a12 ≠ b5_2_13_45 := Nat.ne_of_lt (Nat.lt_of_lt_of_le fc51.lt P20_45)
  have ne_b12_b5_2_13_45 : b12 ≠ b5_2_13_45 := Nat.ne_of_lt (Nat.lt_of_lt_of_le fc52.lt P20_45)
  have ne_b26_b5_2_13_45 : b26 ≠ b5_2_13_45 := Nat.ne_of_lt (Nat.lt_of_lt_of_le P0_29.lt P20_45)
  have ne_o0_b1_7_13_45 : o0 ≠ b1_7_13_45 := Nat.ne_of_lt (Nat.lt_of_lt_of_le fc46.lt P21_45)
  have ne_o1_b1_7_13_45 : o1 ≠ b1_7_13_45 := Nat.ne_of_lt (Nat.lt_of_lt_of_le fc39.lt P21_45)
  have ne_o2_b1_7_13_45 : o2 ≠ b1_7_13_45 := Nat.ne_of_lt (Nat.lt_of_lt_of_le fc44.lt P21_45)
  have ne_a1_b1_7_13_45 : a1 ≠ b1_7_13_45 := Nat.ne_of_lt (Nat.lt_of_lt_of_le fc47.lt P21_45)
  have ne_b1_b1_7_13_45 : b1 ≠ b1_7_13_45 := Nat.ne_of_lt (Nat.lt_of_lt_of_le fc48.lt P21_45)
  have ne_a3_b1_7_13_45 : a3 ≠ b1_7_13_45 := Nat.ne_of_lt (Nat.lt_of_lt_of_le fc49.lt P21_45)
  have ne_b3_b1_7_13_45 : b3 ≠ b1_7_13_45 := Nat.ne_of_lt (Nat.lt_of_lt_of_le fc50.lt P21_45)
  have ne_a12_b1_7_13_45 : a12 ≠ b1_7_13_45 := Nat.ne_of_lt (Nat.lt_of_lt_of_le fc51.lt P21_45)
  have ne_b12_b1_7_13_45 : b12 ≠ b1_7_13_45 := Nat.ne_of_lt (Nat.lt_of_lt_of_le fc52.lt P21_45)
  have ne_b26_b1_7_13_45 : b26 ≠ b1_7_13_45 := Nat.ne_of_lt (Nat.lt_of_lt_of_le P0_29.lt P21_45)
  have g_b5_2_13_45 : n0 ≤ b5_2_13_45 := Nat.le_trans (own_old O29) P20_45
  have sz_b5_2_13_45 : h0.size ≤ b5_2_13_45 := Nat.le_trans K29.1 P20_45
  have g_b1_7_13_45 : n0 ≤ b1_7_13_45 := Nat.le_trans (own_old O29) P21_45
  have sz_b1_7_13_45 : h0.size ≤ b1_7_13_45 := Nat.le_trans K29.1 P21_45
  have O45 := O29.keep Kc45 (allS g_o1 (allS g_b26 all0))
  have K45 : Keep h0 T45.heap [o1] := K29.trans Kc45 (allS (Or.inl (List.mem_of_getElem? (i := 0) rfl)) (allS (Or.inr sz_b26) all0))
  have fc53 := (fc46.keep Kc45)
  have fc54 := (fc44.keep Kc45 (ninS (Ne.symm ne_o1_o2) (ninS ne_o2_b26 nin0)))
  have fc55 := (fc47.keep Kc45)
  have fc56 := (fc48.keep Kc45 (ninS (Ne.symm (hD1 _ sf1_o1).2) (ninS ne_b1_b26 nin0)))
  have fc57 := (fc49.keep Kc45)
  have fc58 := (fc50.keep Kc45 (ninS (Ne.symm (hD3 _ sf3_o1).2) (ninS ne_b3_b26 nin0)))
  have fc59 := (fc51.keep Kc45)
  have fc60 := (fc52.keep Kc45 (ninS (Ne.symm (hD12 _ sf12_o1).2) (ninS ne_b12_b26 nin0)))
  obtain ⟨T61, h61, X61, e61, E61, A61, D61, -, st61⟩ := newO X45 hx hZ12 hown12 (ww hw 4 rfl) (ww hw 5 rfl) (ww hw 2 rfl) rfl (g := (mkF m 60 #[va o0, va o1, va o3, va b26] [])) rfl (hb hby d10_60) (by decide) (by decide)
  obtain ⟨b61, qs61⟩ : ∃ z, z = T45.heap.size := ⟨_, rfl⟩
  rw [← qs61] at A61 D61 st61
  have ne_o0_b61 : o0 ≠ b61 := Nat.ne_of_lt (Nat.lt_of_lt_of_le fc53.lt (Nat.le_of_eq qs61.symm))
  have ne_o1_b61 : o1 ≠ b61 := Nat.ne_of_lt (Nat.lt_of_lt_of_le P10_45.lt (Nat.le_of_eq qs61.symm))
  have ne_o2_b61 : o2 ≠ b61 := Nat.ne_of_lt (Nat.lt_of_lt_of_le fc54.lt (Nat.le_of_eq qs61.symm))
  have ne_a1_b61 : a1 ≠ b61 := Nat.ne_of_lt (Nat.lt_of_lt_of_le fc55.lt (Nat.le_of_eq qs61.symm))
  have ne_b1_b61 : b1 ≠ b61 := Nat.ne_of_lt (Nat.lt_of_lt_of_le fc56.lt (Nat.le_of_eq qs61.symm))
  have ne_a3_b61 : a3 ≠ b61 := Nat.ne_of_lt (Nat.lt_of_lt_of_le fc57.lt (Nat.le_of_eq qs61.symm))
  have ne_b3_b61 : b3 ≠ b61 := Nat.ne_of_lt (Nat.lt_of_lt_of_le fc58.lt (Nat.le_of_eq qs61.symm))
  have ne_a12_b61 : a12 ≠ b61 := Nat.ne_of_lt (Nat.lt_of_lt_of_le fc59.lt (Nat.le_of_eq qs61.symm))
  have ne_b12_b61 : b12 ≠ b61 := Nat.ne_of_lt (Nat.lt_of_lt_of_le fc60.lt (Nat.le_of_eq qs61.symm))
  have ne_b26_b61 : b26 ≠ b61 := Nat.ne_of_lt (Nat.lt_of_lt_of_le P0_45.lt (Nat.le_of_eq qs61.symm))
  have ne_b1_7_13_45_b61 : b1_7_13_45 ≠ b61 := Nat.ne_of_lt (Nat.lt_of_lt_of_le P15_45.lt (Nat.le_of_eq qs61.symm))
  have g_b61 : n0 ≤ b61 := Nat.le_trans (own_old O45) (Nat.le_of_eq qs61.symm)
  have sz_b61 : h0.size ≤ b61 := Nat.le_trans K45.1 (Nat.le_of_eq qs61.symm)
  have O61 := O45.ext E61
  have K61 : Keep h0 h61 [o1] := K45.ext E61
  have F_errorMessage_b61 : Fld Z h61 b61 sC7 "errorMessage" "Ljava/lang/String;" .null := D61 (Or.inr (ww hw 19 rfl)) (ty := (.object sC2)) (by decide)
  have F_values_b61 : Fld Z h61 b61 sC7 "values" "Ljava/util/Map;" .null := D61 (Or.inr (ww hw 21 rfl)) (ty := (.object sC6)) (by decide)
  have fc62 := (((((((F_errorMessage_o0.ext E1).ext E3).ext E12).ext E26).keep Kc29 (ninS ne_o0_b26 nin0)).keep Kc45 (ninS ne_o0_o1 (ninS ne_o0_b26 nin0))).ext E61)
  obtain ⟨T63, X63, e63, st63⟩ := getF X61 hx hZ12 hown12 (host := "") (Or.inl (ww hw 18 rfl)) Via.refl e61 fc62 (g := (mkF m 65 #[va o0, va o1, va o3, va b26] [(.ref o0), (.ref b61), (.ref b61)])) rfl rfl (hb hby d10_65)
  have fc64 := (P0_45.ext E61)
  have fc65 := (P15_45.ext E61)
  have fc66 := (P10_45.ext E61)
  have fc67 := (fc54.ext E61)
  obtain ⟨_, _, ⟨T68, L68, k68, n68⟩, -, X68, ⟨Lc68, hQ68, l68, y68, z68⟩, st68⟩ := Jvm.LawKit.callS X63 hx (y := My32) hown12 (mvT hZ12 (ww hw 217 rfl)) (mvT hZ12 (ww hw 218 rfl)) (mvT hZ12 (ww hw 219 rfl)) (mvT hZ12 (ww hw 220 rfl)) (by decide) (backOf (W := 3) (bm2 l Z a0 hw [] w_EMPTY_MAP w_cache w_mir0 w_mir1 z_COMPACT_STRINGS b26 b5_2_13_45 b1_7_13_45 o1 o2 o3 kk_o2 ((p0 &&& (255 : Int32)) ^^^ (((p0 &&& (255 : Int32)).toUInt32 >>> ((16 : Int32) &&& 31).toUInt32).toInt32)) (p0 &&& (255 : Int32)) p0 h61 n0 O61 S fc64 fc65 fc66 fc67) hZ12 (ww hw 220 rfl) (ww hw 219 rfl) (by decide) (by decide)) (g := (mkF m 69 #[va o0, va o1, va o3, va b26] [(.ref b26), .null, (.ref b61), (.ref b61)])) rfl (by rw [hml]; rfl) (argsL := [(.ref b26)]) (rest := [.null, (.ref b61), (.ref b61)]) (lenOf pd_27 rfl) rfl (by show 2 * 0 + _ ≤ _; exact Nat.le_of_eq rfl) (hb hby d10_69) (fun _ _ => ⟨rfl, e63, (by decide : 10 + 1 ≤ _), (by decide : 92 + 4 ≤ _)⟩)
  dsimp only [Pt.U, Pt.locs, Pt.cells, Pt.slots] at X68 l68 y68 z68 st68 hQ68
  subst l68 y68 z68
  have fc69 := (fc53.ext E61)
  have fc70 := (fc55.ext E61)
  have fc71 := (fc56.ext E61)
  have fc72 := (fc57.ext E61)
  have fc73 := (fc58.ext E61)
  have fc74 := (fc59.ext E61)
  have fc75 := (fc60.ext E61)
  obtain ⟨r_68, rfl, Nq68, Kc68⟩ := hQ68
  have N68 := Fr.app N45 Nq68
  have O68 := O61.keep Kc68 all0
  have K68 : Keep h0 T68.heap [o1] := K61.trans Kc68 all0
  have fc76 := (A61.keep Kc68)
  have fc77 := (F_errorMessage_b61.keep Kc68 nin0)
  have fc78 := (F_values_b61.keep Kc68 nin0)
  obtain ⟨_, _, ⟨T79, L79, k79, n79⟩, -, X79, ⟨Lc79, hQ79, l79, y79, z79⟩, st79⟩ := X68.specialBack hx (y := My3) rfl hown12 (mvT hZ12 (ww hw 12 rfl)) (mvT hZ12 (ww hw 13 rfl)) (mvT hZ12 (ww hw 14 rfl)) (by decide) (backOf (W := 1) (rm3_1 l Z a0 hw [] w_EMPTY_MAP w_cache w_mir0 w_mir1 z_COMPACT_STRINGS b61 r_68 T68.heap n0 O68 S fc76 fc77 fc78 g_b61) hZ12 (ww hw 14 rfl) (ww hw 2 rfl) (by decide) (by decide)) (g := (mkF m 72 #[va o0, va o1, va o3, va b26] [(.ref r_68), .null, (.ref b61), (.ref b61)])) rfl (by rw [hml]; rfl) (Steps.refl _) (a := b61) (argsL := [.null, (.ref r_68)]) (rest := [(.ref b61)]) (lenOf pd_1 rfl) rfl (by show 2 * 0 + _ ≤ _; exact Nat.le_of_eq rfl) (hb hby d10_72) (fun _ _ => ⟨rfl, rfl, (by decide : 11 + 0 ≤ _), (by decide : 96 + 0 ≤ _)⟩)
  dsimp only [Pt.U, Pt.locs, Pt.cells, Pt.slots] at X79 l79 y79 z79 st79 hQ79
  subst l79 y79 z79
  have fc80 := (fc69.keep Kc68)
  have fc81 := (fc66.keep Kc68)
  have fc82 := (fc67.keep Kc68 nin0)
  have fc83 := (fc70.keep Kc68)
  have fc84 := (fc71.keep Kc68 nin0)
  have fc85 := (fc72.keep Kc68)
  have fc86 := (fc73.keep Kc68 nin0)
  have fc87 := (fc74.keep Kc68)
  have fc88 := (fc75.keep Kc68 nin0)
  have fc89 := (fc64.keep Kc68)
  have fc90 := (fc65.keep Kc68)
  obtain ⟨rfl, Nq79, Kc79, P0_79, P1_79, P2_79⟩ := hQ79
  have N79 := Fr.app N68 Nq79
  have O79 := O68.keep Kc79 (allS g_b61 all0)
  have K79 : Keep h0 T79.heap [o1] := K68.trans Kc79 (allS (Or.inr sz_b61) all0)
  obtain ⟨fs, hr, hrun, hended, hRE⟩ := X79.leaveW (s := s) hS12 (Nat.le_trans (Nat.le_trans (Nat.le_trans (Nat.le_trans (Nat.le_trans (Nat.le_trans hk12 E26.1) Kc29.1) Kc45.1) E61.1) Kc68.1) Kc79.1) (v := (some (.ref b61))) (fun h => by rw [hrt] at h; cases h)
  have fc91 := (fc81.keep Kc79)
  have fc92 := (((P11_45.ext E61).keep Kc68 nin0).keep Kc79 (ninS ne_o1_b61 nin0))
  have fc93 := (((P12_45.ext E61).keep Kc68 nin0).keep Kc79 (ninS ne_o1_b61 nin0))
  have fc94 := (((P13_45.ext E61).keep Kc68 nin0).keep Kc79 (ninS ne_o1_b61 nin0))
  have fc95 := (((P14_45.ext E61).keep Kc68 nin0).keep Kc79 (ninS ne_o1_b61 nin0))
  refine ⟨_, _, ?_, hrun, hended, _, _, rfl, ?_, hRE.1, hRE.2.1, hRE.2.2.1, hRE.2.2.2.mono (by decide) (by decide)⟩
  · show Steps p.tables e below (s₁.setTop (mkF m 0 #[va o0, va o1, va o3, uu] [])) _
    refine XS.aloadN X0.here hx rfl (hb hby d10_0) rfl rfl ?_
    refine st1 _ ?_
    refine st2 _ ?_
    refine XS.pop X2.here hx rfl (hb hby d10_6) rfl rfl ?_
    refine XS.aloadN X2.here hx rfl (hb hby d10_7) rfl rfl ?_
    refine st3 _ ?_
    refine st10.trans ?_
    refine XS.ifNo X10.here hx rfl (hb hby d10_13) rfl ((if0 _ _).trans (teq (by decide : (0 : Int32) = (0 : Int32))).2) ?_
    show Steps p.tables e below (T10.setTop (mkF m 16 #[va o0, va o1, va o3, uu] [])) _
    refine XS.aloadN X10.here hx rfl (hb hby d10_16) rfl rfl ?_
    refine st12 _ ?_
    refine st19.trans ?_
    refine XS.ifYes X19.here hx rfl (pc0 := 22) (pc' := 39) rfl (hb hby d10_22) rfl ((if0 _ _).trans (teq (by decide : (0 : Int32) = (0 : Int32))).1) (by decide) (by decide) ?_
    refine st26 _ ?_
    refine XS.dup X26.here hx rfl (hb hby d10_42) rfl rfl ?_
    refine XS.aloadN X26.here hx rfl (hb hby d10_43) rfl rfl ?_
    refine st28 _ ?_
    show Steps p.tables e below (T28.setTop (mkF m 47 #[va o0, va o1, va o3, uu] [(.ref w_EMPTY_MAP), (.ref b26), (.ref b26)])) _
    refine st29.trans ?_
    refine XS.astoreN X29.here hx rfl (hb hby d10_50) rfl rfl (l' := #[va o0, va o1, va o3, va b26]) rfl ?_
    refine XS.aloadN X29.here hx rfl (hb hby d10_51) rfl rfl ?_
    refine XS.aloadN X29.here hx rfl (hb hby d10_52) rfl rfl ?_
    refine XS.aloadN X29.here hx rfl (hb hby d10_53) rfl rfl ?_
    refine st45.trans ?_
    refine XS.pop X45.here hx rfl (hb hby d10_59) rfl rfl ?_
    refine st61 _ ?_
    show Steps p.tables e below (T61.setTop (mkF m 63 #[va o0, va o1, va o3, va b26] [(.ref b61)])) _
    refine XS.dup X61.here hx rfl (hb hby d10_63) rfl rfl ?_
    refine XS.aloadN X61.here hx rfl (hb hby d10_64) rfl rfl ?_
    refine st63 _ ?_
    refine XS.aloadN X63.here hx rfl (hb hby d10_68) rfl rfl ?_
    refine st68 _ ?_
    refine st79.trans ?_
    exact retOut X79 hx (t := (.object sC7)) (i := .areturn) hrt rfl (Or.inr (Or.inr (Or.inr (Or.inr ⟨rfl, rfl, rfl⟩)))) (hb hby d10_75) hr
  · show Q10_1 Z w_EMPTY_MAP w_cache w_mir0 w_mir1 z_COMPACT_STRINGS o0 o1 o2 o3 kk_o2 p0 h0 n0 (some (.ref b61)) T79.heap _
    exact (⟨b61, r_68, rfl, N79, K79, fc91, fc92, fc93, fc94, fc95, P0_79, P1_79, P2_79, sz_b61⟩)
theorem ow1 (p0 : Int32) : ¬ ((255 : Int32) < (cc (p0 &&& (255 : Int32)))) := by
  rw [Int32.lt_iff_toInt_lt]
  have t1 : ((255 : Int32) : Int32).toInt = 255 := by decide
  have t2a := Int32.toInt_lt p0
  have t2b := Int32.le_toInt p0
  have t3 := Jvm.Kit.i32_mask p0 (255 : Int32) (k := 8) (by decide) (by decide)
  have t4 := own_cc_toInt (p0 &&& (255 : Int32))
  omega
def Q0 (n0 : Nat) (v : Option Value) (h : Heap) (L : List Loc) : Prop := v = (some (.int (1 : Int32))) ∧ Fr n0 L
theorem rm0 (l : Launch) (Z : State) (a0 : Array Value) (hw : HW Z a0) (ws : List Jvm.Cond) (w_EMPTY_MAP w_cache w_mir0 w_mir1 : Addr) (z_COMPACT_STRINGS : Int32) (h0 : Heap) (n0 : Nat) (O0 : Old Z n0 h0) (S : SF Z w_EMPTY_MAP w_cache w_mir0 w_mir1 z_COMPACT_STRINGS) (p0 : Int32) (p1 : Int32) :
    PayE n0 l Z x ws code maxLocals ret #[(.int p0), (.int p1)] h0 room_1 (Q0 n0) := by
  refine own_bodyE (plainFor_of_name pn_0) (L0 := #[vi p0, vi p1, uu, uu, uu, uu, uu]) (fun _ => by first | rfl | (simp [entryFrame, mkF, argsToLocals, Value.category, maxLocals]; done)) ?_
  intro p e s m below meth c s₁ hrt hlk hx hby hml hZ hown0 hnm X0 e0 hCH
  have hown : s.vm.findClass "com/example/bowline/bowline/sdk/TaskResultSuccessPinLaw" = some m.cls := hown0
  have N0 := Fr.nil n0
  have K0 : Keep h0 h0 [] := Keep.refl _ _
  obtain ⟨_, _, ⟨T1, L1, k1, n1⟩, -, X1, ⟨Lc1, hQ1, l1, y1, z1⟩, st1⟩ := Jvm.LawKit.callS X0 hx (y := (⟨sC7, "success", "()Lcom/example/bowline/bowline/sdk/TaskResult;"⟩ : MethodName)) hown (mvT hZ (ww hw 0 rfl)) (mvT hZ (ww hw 1 rfl)) (mvT hZ (ww hw 2 rfl)) (mvT hZ (ww hw 3 rfl)) (by decide) (backOf (W := 0) (rm1_0 l Z a0 hw [] w_EMPTY_MAP w_cache w_mir0 w_mir1 z_COMPACT_STRINGS h0 n0 O0 S) hZ (ww hw 3 rfl) (ww hw 2 rfl) (by decide) (by decide)) (g := (mkF m 0 #[vi p0, vi p1, uu, uu, uu, uu, uu] [])) rfl (by rw [hml]; rfl) (argsL := []) (rest := []) (lenOf pd_2 rfl) rfl (by show 2 * 0 + _ ≤ _; exact Nat.le_of_eq rfl) (hb hby at_0) (fun _ _ => ⟨rfl, e0, (by decide : 0 + 1 ≤ _), (by decide : 0 + 2 ≤ _)⟩)
  dsimp only [Pt.U, Pt.locs, Pt.cells, Pt.slots] at X1 l1 y1 z1 st1 hQ1
  subst l1 y1 z1
  obtain ⟨b1_1, rfl, Nq1, Kc1, P0_1, P1_1, P2_1, P3_1⟩ := hQ1
  have N1 := Fr.app N0 Nq1
  have g_b1_1 : n0 ≤ b1_1 := Nat.le_trans (own_old O0) P3_1
  have sz_b1_1 : h0.size ≤ b1_1 := Nat.le_trans K0.1 P3_1
  have O1 := O0.keep Kc1 all0
  have K1 : Keep h0 T1.heap [] := K0.trans Kc1 all0
  have hc2 : ¬ ((255 : Int32) < (cc (p0 &&& (255 : Int32)))) := ow1 p0
  obtain ⟨_, _, ⟨T3, L3, k3, n3⟩, -, X3, ⟨Lc3, hQ3, l3, y3, z3⟩, st3⟩ := Jvm.LawKit.callS X1 hx (y := (⟨sC2, "valueOf", "(C)Ljava/lang/String;"⟩ : MethodName)) hown (mvT hZ (ww hw 22 rfl)) (mvT hZ (ww hw 23 rfl)) (mvT hZ (ww hw 24 rfl)) (mvT hZ (ww hw 25 rfl)) (by decide) (backOf (W := 0) (rm5_0 l Z a0 hw [] w_EMPTY_MAP w_cache w_mir0 w_mir1 z_COMPACT_STRINGS (cc (p0 &&& (255 : Int32))) T1.heap n0 O1 S hc2) hZ (ww hw 25 rfl) (ww hw 24 rfl) (by decide) (by decide)) (g := (mkF m 10 #[vi p0, vi p1, va b1_1, uu, uu, uu, uu] [(.int (cc (p0 &&& (255 : Int32))))])) rfl (by rw [hml]; rfl) (argsL := [(.int (cc (p0 &&& (255 : Int32))))]) (rest := []) (lenOf pd_6 rfl) rfl (by show 2 * 0 + _ ≤ _; exact Nat.le_of_eq rfl) (hb hby at_10) (fun _ _ => ⟨rfl, rfl, (by decide : 1 + 2 ≤ _), (by decide : 2 + 5 ≤ _)⟩)
  dsimp only [Pt.U, Pt.locs, Pt.cells, Pt.slots] at X3 l3 y3 z3 st3 hQ3
  subst l3 y3 z3
  obtain ⟨b3_3, b1_4_3, k1_4_3, rfl, Nq3, Kc3, P0_3, P1_3, P2_3, P3_3, P4_3, P5_3, P6_3, P7_3, P8_3⟩ := hQ3
  have N3 := Fr.app N1 Nq3
  have ne_b1_1_b3_3 : b1_1 ≠ b3_3 := Nat.ne_of_lt (Nat.lt_of_lt_of_le P0_1.lt P6_3)
  have ne_b1_1_b1_4_3 : b1_1 ≠ b1_4_3 := Nat.ne_of_lt (Nat.lt_of_lt_of_le P0_1.lt P7_3)
  have g_b3_3 : n0 ≤ b3_3 := Nat.le_trans (own_old O1) P6_3
  have sz_b3_3 : h0.size ≤ b3_3 := Nat.le_trans K1.1 P6_3
  have g_b1_4_3 : n0 ≤ b1_4_3 := Nat.le_trans (own_old O1) P7_3
  have sz_b1_4_3 : h0.size ≤ b1_4_3 := Nat.le_trans K1.1 P7_3
  have O3 := O1.keep Kc3 all0
  have K3 : Keep h0 T3.heap [] := K1.trans Kc3 all0
  obtain ⟨_, _, ⟨T4, L4, k4, n4⟩, -, X4, ⟨Lc4, hQ4, l4, y4, z4⟩, st4⟩ := Jvm.LawKit.callS X3 hx (y := My9) hown (mvT hZ (ww hw 46 rfl)) (mvT hZ (ww hw 47 rfl)) (mvT hZ (ww hw 48 rfl)) (mvT hZ (ww hw 49 rfl)) (by decide) (backOf (W := 2) (bm0 l Z a0 hw [] w_EMPTY_MAP w_cache w_mir0 w_mir1 z_COMPACT_STRINGS p1 T3.heap n0 O3 S) hZ (ww hw 49 rfl) (ww hw 48 rfl) (by decide) (by decide)) (g := (mkF m 17 #[vi p0, vi p1, va b1_1, va b3_3, uu, uu, uu] [(.int p1), (.ref b3_3), (.ref b1_1)])) rfl (by rw [hml]; rfl) (argsL := [(.int p1)]) (rest := [(.ref b3_3), (.ref b1_1)]) (lenOf pd_9 rfl) rfl (by show 2 * 0 + _ ≤ _; exact Nat.le_of_eq rfl) (hb hby at_17) (fun _ _ => ⟨rfl, rfl, (by decide : 3 + 1 ≤ _), (by decide : 7 + 1 ≤ _)⟩)
  dsimp only [Pt.U, Pt.locs, Pt.cells, Pt.slots] at X4 l4 y4 z4 st4 hQ4
  subst l4 y4 z4
  have fc5 := (P0_1.keep Kc3)
  obtain ⟨r_4, rfl, Nq4, Kc4⟩ := hQ4
  have N4 := Fr.app N3 Nq4
  have O4 := O3.keep Kc4 all0
  have K4 : Keep h0 T4.heap [] := K3.trans Kc4 all0
  have pre_7 : ∀ t, Steps p.tables e below (T4.setTop (mkF m 20 #[vi p0, vi p1, va b1_1, va b3_3, uu, uu, uu] [(.ref r_4), (.ref b3_3), (.ref b1_1)])) t → Steps p.tables e below (s₁.setTop (mkF m 0 #[vi p0, vi p1, uu, uu, uu, uu, uu] [])) t := fun t k => (by
    show Steps p.tables e below (s₁.setTop (mkF m 0 #[vi p0, vi p1, uu, uu, uu, uu, uu] [])) _
    refine st1 _ ?_
    refine XS.astoreN X1.here hx rfl (hb hby at_3) rfl rfl (l' := #[vi p0, vi p1, va b1_1, uu, uu, uu, uu]) rfl ?_
    refine XS.iloadN X1.here hx rfl (hb hby at_4) rfl ?_
    refine XS.sipush X1.here hx rfl (hb hby at_5) ?_
    refine XS.iand X1.here hx rfl (hb hby at_8) rfl ?_
    refine XS.i2c X1.here hx rfl (hb hby at_9) rfl ?_
    refine st3 _ ?_
    refine XS.astoreN X3.here hx rfl (hb hby at_13) rfl rfl (l' := #[vi p0, vi p1, va b1_1, va b3_3, uu, uu, uu]) rfl ?_
    show Steps p.tables e below (T3.setTop (mkF m 14 #[vi p0, vi p1, va b1_1, va b3_3, uu, uu, uu] [])) _
    refine XS.aloadN X3.here hx rfl (hb hby at_14) rfl rfl ?_
    refine XS.aloadN X3.here hx rfl (hb hby at_15) rfl rfl ?_
    refine XS.iloadN X3.here hx rfl (hb hby at_16) rfl ?_
    refine st4 _ ?_
    exact k)
  by_cases hc6 : ((bb (bb (cc (p0 &&& (255 : Int32))))) &&& (255 : Int32)) = (0 : Int32)
  · have fc8 := (fc5.keep Kc4)
    have fc9 := ((P1_1.keep Kc3 nin0).keep Kc4 nin0)
    have fc10 := ((P2_1.keep Kc3 nin0).keep Kc4 nin0)
    have fc11 := (P0_3.keep Kc4)
    have fc12 := (P1_3.keep Kc4 nin0)
    have fc13 := (P2_3.keep Kc4 nin0)
    have fc14 := (P3_3.keep Kc4 nin0)
    have fc15 := (P4_3.keep Kc4 nin0)
    have fc16 := (P5_3.keep Kc4 nin0)
    obtain ⟨cq17, kq17, q17a, q17b, q17c⟩ := isOf hZ rfl fc8
    obtain ⟨_, _, ⟨T17, L17, k17, n17⟩, -, X17, hS17, hge17, ⟨Lc17, hQ17, l17, y17, z17⟩, st17⟩ := X4.virtualBackS hx (y := My10) (z := My10) hown (mvT hZ (ww hw 53 rfl)) (mvT hZ (ww hw 54 rfl)) (notFace_of_selects (args := #[]) (mvT hZ (ww hw 56 rfl))) (mvT hZ (ww hw 56 rfl)) (mvT hZ (ww hw 55 rfl)) (by decide) (own_backE (W := 0) (rm10_0 l Z a0 hw [] w_EMPTY_MAP w_cache w_mir0 w_mir1 z_COMPACT_STRINGS b1_1 b3_3 b1_4_3 r_4 k1_4_3 (bb (bb (cc (p0 &&& (255 : Int32))))) T4.heap n0 O4 S fc8 fc9 fc10 fc11 fc12 fc13 fc14 fc15 fc16 ne_b1_1_b3_3 P8_3 g_b1_1 g_b3_3 g_b1_4_3 hc6) hZ (ww hw 57 rfl) (ww hw 2 rfl) (by decide) (by decide) (own_EW hw) (hCH.keep K4)) q17a q17c (g := (mkF m 20 #[vi p0, vi p1, va b1_1, va b3_3, uu, uu, uu] [(.ref r_4), (.ref b3_3), (.ref b1_1)])) rfl (by rw [hml]; rfl) (Steps.refl _) (argsL := [(.ref b3_3), (.ref r_4)]) (rest := []) (lenOf pd_28 rfl) rfl (by show 2 * 0 + _ ≤ _; exact Nat.le_of_eq rfl) (hb hby at_20) (fun _ _ => ⟨rfl, rfl, (by decide : 4 + 11 ≤ _), (by decide : 8 + 96 ≤ _)⟩)
    dsimp only [Pt.U, Pt.locs, Pt.cells, Pt.slots] at X17 l17 y17 z17 st17 hQ17 hS17 hge17
    subst l17 y17 z17
    have hZ17 : Z.Warmed39 (s.setVm T17.vm).vm := State.Warmed39.trans hZ hS17.1
    have hown17 : (s.setVm T17.vm).vm.findClass "com/example/bowline/bowline/sdk/TaskResultSuccessPinLaw" = some m.cls := by rw [show (s.setVm T17.vm).vm = T17.vm from rfl, hS17.1.alike.findClass]; exact hown
    obtain ⟨b61_17, r_68_17, rfl, Nq17, Kc17, P0_17, P1_17, P2_17, P3_17, P4_17, P5_17, P6_17, P7_17, P8_17⟩ := hQ17
    have N17 := Fr.app N4 Nq17
    have ne_b1_1_b61_17 : b1_1 ≠ b61_17 := Nat.ne_of_lt (Nat.lt_of_lt_of_le fc8.lt P8_17)
    have ne_b3_3_b61_17 : b3_3 ≠ b61_17 := Nat.ne_of_lt (Nat.lt_of_lt_of_le fc11.lt P8_17)
    have ne_b1_4_3_b61_17 : b1_4_3 ≠ b61_17 := Nat.ne_of_lt (Nat.lt_of_lt_of_le fc16.lt P8_17)
    have g_b61_17 : n0 ≤ b61_17 := Nat.le_trans (own_old O4) P8_17
    have sz_b61_17 : h0.size ≤ b61_17 := Nat.le_trans K4.1 P8_17
    have O17 := O4.keep Kc17 (allS g_b3_3 all0)
    have K17 : Keep h0 T17.heap [] := K4.trans Kc17 (allS (Or.inr sz_b3_3) all0)
    have fc18 := (fc9.keep Kc17 (ninS ne_b1_1_b3_3 nin0))
    have fc20 := (fc8.keep Kc17)
    obtain ⟨cq19, kq19, q19a, q19b, q19c⟩ := isOf hZ17 rfl fc20
    obtain ⟨_, _, ⟨T19, L19, k19, n19⟩, -, X19, ⟨Lc19, hQ19, l19, y19, z19⟩, st19⟩ := X17.virtualBack hx (y := My34) (z := My34) hown17 (mvT hZ17 (ww hw 240 rfl)) (mvT hZ17 (ww hw 241 rfl)) (notFace_of_selects (args := #[]) (mvT hZ17 (ww hw 243 rfl))) (mvT hZ17 (ww hw 243 rfl)) (mvT hZ17 (ww hw 242 rfl)) (by decide) (backOf (W := 0) (rm34_0 l Z a0 hw [] w_EMPTY_MAP w_cache w_mir0 w_mir1 z_COMPACT_STRINGS b1_1 T17.heap n0 O17 S fc18) hZ17 (ww hw 244 rfl) (ww hw 2 rfl) (by decide) (by decide)) q19a q19c (g := (mkF m 26 #[vi p0, vi p1, va b1_1, va b3_3, va b61_17, uu, uu] [(.ref b1_1)])) rfl (by rw [hml]; rfl) (Steps.refl _) (argsL := []) (rest := []) (lenOf pd_16 rfl) rfl (by show 2 * 0 + _ ≤ _; exact Nat.le_of_eq rfl) (hb hby at_26) (fun _ _ => ⟨rfl, rfl, (by decide : 15 + 0 ≤ _), (by decide : 104 + 0 ≤ _)⟩)
    dsimp only [Pt.U, Pt.locs, Pt.cells, Pt.slots] at X19 l19 y19 z19 st19 hQ19
    subst l19 y19 z19
    obtain ⟨rfl, Nq19, e19⟩ := hQ19
    have N19 := Fr.app N17 Nq19
    obtain ⟨cq21, kq21, q21a, q21b, q21c⟩ := isOf hZ17 e19 fc20
    obtain ⟨_, _, ⟨T21, L21, k21, n21⟩, -, X21, ⟨Lc21, hQ21, l21, y21, z21⟩, st21⟩ := X19.virtualBack hx (y := My35) (z := My35) hown17 (mvT hZ17 (ww hw 245 rfl)) (mvT hZ17 (ww hw 246 rfl)) (notFace_of_selects (args := #[]) (mvT hZ17 (ww hw 248 rfl))) (mvT hZ17 (ww hw 248 rfl)) (mvT hZ17 (ww hw 247 rfl)) (by decide) (backOf (W := 0) (rm35_0 l Z a0 hw [] w_EMPTY_MAP w_cache w_mir0 w_mir1 z_COMPACT_STRINGS b1_1 T17.heap n0 O17 S fc18) hZ17 (ww hw 249 rfl) (ww hw 2 rfl) (by decide) (by decide)) q21a q21c (g := (mkF m 33 #[vi p0, vi p1, va b1_1, va b3_3, va b61_17, uu, uu] [(.ref b1_1)])) rfl (by rw [hml]; rfl) (Steps.refl _) (argsL := []) (rest := []) (lenOf pd_29 rfl) rfl (by show 2 * 0 + _ ≤ _; exact Nat.le_of_eq rfl) (hb hby at_33) (fun _ _ => ⟨rfl, e19, (by decide : 15 + 0 ≤ _), (by decide : 104 + 0 ≤ _)⟩)
    dsimp only [Pt.U, Pt.locs, Pt.cells, Pt.slots] at X21 l21 y21 z21 st21 hQ21
    subst l21 y21 z21
    obtain ⟨rfl, Nq21, e21⟩ := hQ21
    have N21 := Fr.app N19 Nq21
    obtain ⟨cq22, kq22, q22a, q22b, q22c⟩ := isOf hZ17 e21 P5_17
    obtain ⟨_, _, ⟨T22, L22, k22, n22⟩, -, X22, ⟨Lc22, hQ22, l22, y22, z22⟩, st22⟩ := X21.virtualBack hx (y := My34) (z := My34) hown17 (mvT hZ17 (ww hw 240 rfl)) (mvT hZ17 (ww hw 241 rfl)) (notFace_of_selects (args := #[]) (mvT hZ17 (ww hw 243 rfl))) (mvT hZ17 (ww hw 243 rfl)) (mvT hZ17 (ww hw 242 rfl)) (by decide) (backOf (W := 0) (rm34_1 l Z a0 hw [] w_EMPTY_MAP w_cache w_mir0 w_mir1 z_COMPACT_STRINGS b61_17 r_68_17 T17.heap n0 O17 S P6_17) hZ17 (ww hw 244 rfl) (ww hw 2 rfl) (by decide) (by decide)) q22a q22c (g := (mkF m 48 #[vi p0, vi p1, va b1_1, va b3_3, va b61_17, vi 1, uu] [(.ref b61_17)])) rfl (by rw [hml]; rfl) (Steps.refl _) (argsL := []) (rest := []) (lenOf pd_16 rfl) rfl (by show 2 * 0 + _ ≤ _; exact Nat.le_of_eq rfl) (hb hby at_48) (fun _ _ => ⟨rfl, e21, (by decide : 15 + 0 ≤ _), (by decide : 104 + 0 ≤ _)⟩)
    dsimp only [Pt.U, Pt.locs, Pt.cells, Pt.slots] at X22 l22 y22 z22 st22 hQ22
    subst l22 y22 z22
    obtain ⟨rfl, Nq22, e22⟩ := hQ22
    have N22 := Fr.app N21 Nq22
    obtain ⟨cq23, kq23, q23a, q23b, q23c⟩ := isOf hZ17 e22 P5_17
    obtain ⟨_, _, ⟨T23, L23, k23, n23⟩, -, X23, ⟨Lc23, hQ23, l23, y23, z23⟩, st23⟩ := X22.virtualBack hx (y := My35) (z := My35) hown17 (mvT hZ17 (ww hw 245 rfl)) (mvT hZ17 (ww hw 246 rfl)) (notFace_of_selects (args := #[]) (mvT hZ17 (ww hw 248 rfl))) (mvT hZ17 (ww hw 248 rfl)) (mvT hZ17 (ww hw 247 rfl)) (by decide) (backOf (W := 0) (rm35_1 l Z a0 hw [] w_EMPTY_MAP w_cache w_mir0 w_mir1 z_COMPACT_STRINGS b61_17 r_68_17 T17.heap n0 O17 S P6_17) hZ17 (ww hw 249 rfl) (ww hw 2 rfl) (by decide) (by decide)) q23a q23c (g := (mkF m 56 #[vi p0, vi p1, va b1_1, va b3_3, va b61_17, vi 1, uu] [(.ref b61_17)])) rfl (by rw [hml]; rfl) (Steps.refl _) (argsL := []) (rest := []) (lenOf pd_29 rfl) rfl (by show 2 * 0 + _ ≤ _; exact Nat.le_of_eq rfl) (hb hby at_56) (fun _ _ => ⟨rfl, e22, (by decide : 15 + 0 ≤ _), (by decide : 104 + 0 ≤ _)⟩)
    dsimp only [Pt.U, Pt.locs, Pt.cells, Pt.slots] at X23 l23 y23 z23 st23 hQ23
    subst l23 y23 z23
    obtain ⟨rfl, Nq23, e23⟩ := hQ23
    have N23 := Fr.app N22 Nq23
    obtain ⟨fs, hr, hrun, hended, hRE⟩ := X23.leaveW (s := s) hS17 (by rw [e23]; exact (Nat.le_refl _)) (v := (some (.int 1))) (fun h => by rw [hrt] at h; cases h)
    refine ⟨_, _, pre_7 _ ?_, hrun, hended, _, _, rfl, ?_, hRE.1, hRE.2.1, hRE.2.2.1, hRE.2.2.2.mono (by decide) (by decide)⟩
    · show Steps p.tables e below (T4.setTop (mkF m 20 #[vi p0, vi p1, va b1_1, va b3_3, uu, uu, uu] [(.ref r_4), (.ref b3_3), (.ref b1_1)])) _
      refine st17.trans ?_
      refine XS.astore X17.here hx rfl (hb hby at_23) rfl rfl (l' := #[vi p0, vi p1, va b1_1, va b3_3, va b61_17, uu, uu]) rfl ?_
      refine XS.aloadN X17.here hx rfl (hb hby at_25) rfl rfl ?_
      refine st19.trans ?_
      refine XS.ifNo X19.here hx rfl (hb hby at_29) rfl ((if0 _ _).trans (feq (by decide : ¬ ((1 : Int32) = (0 : Int32)))).1) ?_
      refine XS.aloadN X19.here hx rfl (hb hby at_32) rfl rfl ?_
      refine st21.trans ?_
      refine XS.ifnonnullNo X21.here hx rfl (hb hby at_36) rfl ?_
      show Steps p.tables e below (T21.setTop (mkF m 39 #[vi p0, vi p1, va b1_1, va b3_3, va b61_17, uu, uu] [])) _
      refine XS.iconst X21.here hx rfl (hb hby at_39) ?_
      refine XS.goto X21.here hx rfl (pc0 := 40) (pc' := 44) rfl (hb hby at_40) (by decide) (by decide) ?_
      refine XS.istore X21.here hx rfl (hb hby at_44) rfl (l' := #[vi p0, vi p1, va b1_1, va b3_3, va b61_17, vi 1, uu]) rfl ?_
      refine XS.aload X21.here hx rfl (hb hby at_46) rfl rfl ?_
      refine st22.trans ?_
      refine XS.ifNo X22.here hx rfl (hb hby at_51) rfl ((if0 _ _).trans (feq (by decide : ¬ ((1 : Int32) = (0 : Int32)))).1) ?_
      refine XS.aload X22.here hx rfl (hb hby at_54) rfl rfl ?_
      refine st23.trans ?_
      show Steps p.tables e below (T23.setTop (mkF m 59 #[vi p0, vi p1, va b1_1, va b3_3, va b61_17, vi 1, uu] [.null])) _
      refine XS.ifnonnullNo X23.here hx rfl (hb hby at_59) rfl ?_
      refine XS.iconst X23.here hx rfl (hb hby at_62) ?_
      refine XS.goto X23.here hx rfl (pc0 := 63) (pc' := 67) rfl (hb hby at_63) (by decide) (by decide) ?_
      refine XS.istore X23.here hx rfl (hb hby at_67) rfl (l' := #[vi p0, vi p1, va b1_1, va b3_3, va b61_17, vi 1, vi 1]) rfl ?_
      refine XS.iload X23.here hx rfl (hb hby at_69) rfl ?_
      refine XS.ifNo X23.here hx rfl (hb hby at_71) rfl ((if0 _ _).trans (feq (by decide : ¬ ((1 : Int32) = (0 : Int32)))).1) ?_
      refine XS.iload X23.here hx rfl (hb hby at_74) rfl ?_
      refine XS.ifNo X23.here hx rfl (hb hby at_76) rfl ((if0 _ _).trans (feq (by decide : ¬ ((1 : Int32) = (0 : Int32)))).1) ?_
      show Steps p.tables e below (T23.setTop (mkF m 79 #[vi p0, vi p1, va b1_1, va b3_3, va b61_17, vi 1, vi 1] [])) _
      refine XS.aload X23.here hx rfl (hb hby at_79) rfl rfl ?_
      refine XS.aloadN X23.here hx rfl (hb hby at_81) rfl rfl ?_
      refine Jvm.RoadKit.acmp (g := (mkF m 82 #[vi p0, vi p1, va b1_1, va b3_3, va b61_17, vi 1, vi 1] [(.ref b1_1), (.ref b61_17)])) X23 hx rfl rfl rfl (pc0 := 82) (pc' := 85) (same := false) rfl (hb hby at_82) rfl (decide_eq_false fun q => (Ne.symm ne_b1_1_b61_17) (Value.ref.inj q)) (by decide) (by decide) ?_
      refine XS.iconst X23.here hx rfl (hb hby at_85) ?_
      refine XS.goto X23.here hx rfl (pc0 := 86) (pc' := 90) rfl (hb hby at_86) (by decide) (by decide) ?_
      exact retN X23 hx (t := .boolean) hrt (by simp) (hb hby at_90) hr
    · show Q0 n0 (some (.int 1)) T23.heap _
      exact (⟨rfl, N23⟩)
  · have fc8 := (fc5.keep Kc4)
    have fc9 := ((P1_1.keep Kc3 nin0).keep Kc4 nin0)
    have fc10 := ((P2_1.keep Kc3 nin0).keep Kc4 nin0)
    have fc11 := (P0_3.keep Kc4)
    have fc12 := (P1_3.keep Kc4 nin0)
    have fc13 := (P2_3.keep Kc4 nin0)
    have fc14 := (P3_3.keep Kc4 nin0)
    have fc15 := (P4_3.keep Kc4 nin0)
    have fc16 := (P5_3.keep Kc4 nin0)
    obtain ⟨cq17, kq17, q17a, q17b, q17c⟩ := isOf hZ rfl fc8
    obtain ⟨_, _, ⟨T17, L17, k17, n17⟩, -, X17, hS17, hge17, ⟨Lc17, hQ17, l17, y17, z17⟩, st17⟩ := X4.virtualBackS hx (y := My10) (z := My10) hown (mvT hZ (ww hw 53 rfl)) (mvT hZ (ww hw 54 rfl)) (notFace_of_selects (args := #[]) (mvT hZ (ww hw 56 rfl))) (mvT hZ (ww hw 56 rfl)) (mvT hZ (ww hw 55 rfl)) (by decide) (own_backE (W := 0) (rm10_1 l Z a0 hw [] w_EMPTY_MAP w_cache w_mir0 w_mir1 z_COMPACT_STRINGS b1_1 b3_3 b1_4_3 r_4 k1_4_3 (bb (bb (cc (p0 &&& (255 : Int32))))) T4.heap n0 O4 S fc8 fc9 fc10 fc11 fc12 fc13 fc14 fc15 fc16 ne_b1_1_b3_3 P8_3 g_b1_1 g_b3_3 g_b1_4_3 hc6) hZ (ww hw 57 rfl) (ww hw 2 rfl) (by decide) (by decide) (own_EW hw) (hCH.keep K4)) q17a q17c (g := (mkF m 20 #[vi p0, vi p1, va b1_1, va b3_3, uu, uu, uu] [(.ref r_4), (.ref b3_3), (.ref b1_1)])) rfl (by rw [hml]; rfl) (Steps.refl _) (argsL := [(.ref b3_3), (.ref r_4)]) (rest := []) (lenOf pd_28 rfl) rfl (by show 2 * 0 + _ ≤ _; exact Nat.le_of_eq rfl) (hb hby at_20) (fun _ _ => ⟨rfl, rfl, (by decide : 4 + 11 ≤ _), (by decide : 8 + 96 ≤ _)⟩)
    dsimp only [Pt.U, Pt.locs, Pt.cells, Pt.slots] at X17 l17 y17 z17 st17 hQ17 hS17 hge17
    subst l17 y17 z17
    have hZ17 : Z.Warmed39 (s.setVm T17.vm).vm := State.Warmed39.trans hZ hS17.1
    have hown17 : (s.setVm T17.vm).vm.findClass "com/example/bowline/bowline/sdk/TaskResultSuccessPinLaw" = some m.cls := by rw [show (s.setVm T17.vm).vm = T17.vm from rfl, hS17.1.alike.findClass]; exact hown
    obtain ⟨b61_17, r_68_17, rfl, Nq17, Kc17, P0_17, P1_17, P2_17, P3_17, P4_17, P5_17, P6_17, P7_17, P8_17⟩ := hQ17
    have N17 := Fr.app N4 Nq17
    have ne_b1_1_b61_17 : b1_1 ≠ b61_17 := Nat.ne_of_lt (Nat.lt_of_lt_of_le fc8.lt P8_17)
    have ne_b3_3_b61_17 : b3_3 ≠ b61_17 := Nat.ne_of_lt (Nat.lt_of_lt_of_le fc11.lt P8_17)
    have ne_b1_4_3_b61_17 : b1_4_3 ≠ b61_17 := Nat.ne_of_lt (Nat.lt_of_lt_of_le fc16.lt P8_17)
    have g_b61_17 : n0 ≤ b61_17 := Nat.le_trans (own_old O4) P8_17
    have sz_b61_17 : h0.size ≤ b61_17 := Nat.le_trans K4.1 P8_17
    have O17 := O4.keep Kc17 (allS g_b3_3 all0)
    have K17 : Keep h0 T17.heap [] := K4.trans Kc17 (allS (Or.inr sz_b3_3) all0)
    have fc18 := (fc9.keep Kc17 (ninS ne_b1_1_b3_3 nin0))
    have fc20 := (fc8.keep Kc17)
    obtain ⟨cq19, kq19, q19a, q19b, q19c⟩ := isOf hZ17 rfl fc20
    obtain ⟨_, _, ⟨T19, L19, k19, n19⟩, -, X19, ⟨Lc19, hQ19, l19, y19, z19⟩, st19⟩ := X17.virtualBack hx (y := My34) (z := My34) hown17 (mvT hZ17 (ww hw 240 rfl)) (mvT hZ17 (ww hw 241 rfl)) (notFace_of_selects (args := #[]) (mvT hZ17 (ww hw 243 rfl))) (mvT hZ17 (ww hw 243 rfl)) (mvT hZ17 (ww hw 242 rfl)) (by decide) (backOf (W := 0) (rm34_0 l Z a0 hw [] w_EMPTY_MAP w_cache w_mir0 w_mir1 z_COMPACT_STRINGS b1_1 T17.heap n0 O17 S fc18) hZ17 (ww hw 244 rfl) (ww hw 2 rfl) (by decide) (by decide)) q19a q19c (g := (mkF m 26 #[vi p0, vi p1, va b1_1, va b3_3, va b61_17, uu, uu] [(.ref b1_1)])) rfl (by rw [hml]; rfl) (Steps.refl _) (argsL := []) (rest := []) (lenOf pd_16 rfl) rfl (by show 2 * 0 + _ ≤ _; exact Nat.le_of_eq rfl) (hb hby at_26) (fun _ _ => ⟨rfl, rfl, (by decide : 15 + 0 ≤ _), (by decide : 104 + 0 ≤ _)⟩)
    dsimp only [Pt.U, Pt.locs, Pt.cells, Pt.slots] at X19 l19 y19 z19 st19 hQ19
    subst l19 y19 z19
    obtain ⟨rfl, Nq19, e19⟩ := hQ19
    have N19 := Fr.app N17 Nq19
    obtain ⟨cq21, kq21, q21a, q21b, q21c⟩ := isOf hZ17 e19 fc20
    obtain ⟨_, _, ⟨T21, L21, k21, n21⟩, -, X21, ⟨Lc21, hQ21, l21, y21, z21⟩, st21⟩ := X19.virtualBack hx (y := My35) (z := My35) hown17 (mvT hZ17 (ww hw 245 rfl)) (mvT hZ17 (ww hw 246 rfl)) (notFace_of_selects (args := #[]) (mvT hZ17 (ww hw 248 rfl))) (mvT hZ17 (ww hw 248 rfl)) (mvT hZ17 (ww hw 247 rfl)) (by decide) (backOf (W := 0) (rm35_0 l Z a0 hw [] w_EMPTY_MAP w_cache w_mir0 w_mir1 z_COMPACT_STRINGS b1_1 T17.heap n0 O17 S fc18) hZ17 (ww hw 249 rfl) (ww hw 2 rfl) (by decide) (by decide)) q21a q21c (g := (mkF m 33 #[vi p0, vi p1, va b1_1, va b3_3, va b61_17, uu, uu] [(.ref b1_1)])) rfl (by rw [hml]; rfl) (Steps.refl _) (argsL := []) (rest := []) (lenOf pd_29 rfl) rfl (by show 2 * 0 + _ ≤ _; exact Nat.le_of_eq rfl) (hb hby at_33) (fun _ _ => ⟨rfl, e19, (by decide : 15 + 0 ≤ _), (by decide : 104 + 0 ≤ _)⟩)
    dsimp only [Pt.U, Pt.locs, Pt.cells, Pt.slots] at X21 l21 y21 z21 st21 hQ21
    subst l21 y21 z21
    obtain ⟨rfl, Nq21, e21⟩ := hQ21
    have N21 := Fr.app N19 Nq21
    obtain ⟨cq22, kq22, q22a, q22b, q22c⟩ := isOf hZ17 e21 P5_17
    obtain ⟨_, _, ⟨T22, L22, k22, n22⟩, -, X22, ⟨Lc22, hQ22, l22, y22, z22⟩, st22⟩ := X21.virtualBack hx (y := My34) (z := My34) hown17 (mvT hZ17 (ww hw 240 rfl)) (mvT hZ17 (ww hw 241 rfl)) (notFace_of_selects (args := #[]) (mvT hZ17 (ww hw 243 rfl))) (mvT hZ17 (ww hw 243 rfl)) (mvT hZ17 (ww hw 242 rfl)) (by decide) (backOf (W := 0) (rm34_1 l Z a0 hw [] w_EMPTY_MAP w_cache w_mir0 w_mir1 z_COMPACT_STRINGS b61_17 r_68_17 T17.heap n0 O17 S P6_17) hZ17 (ww hw 244 rfl) (ww hw 2 rfl) (by decide) (by decide)) q22a q22c (g := (mkF m 48 #[vi p0, vi p1, va b1_1, va b3_3, va b61_17, vi 1, uu] [(.ref b61_17)])) rfl (by rw [hml]; rfl) (Steps.refl _) (argsL := []) (rest := []) (lenOf pd_16 rfl) rfl (by show 2 * 0 + _ ≤ _; exact Nat.le_of_eq rfl) (hb hby at_48) (fun _ _ => ⟨rfl, e21, (by decide : 15 + 0 ≤ _), (by decide : 104 + 0 ≤ _)⟩)
    dsimp only [Pt.U, Pt.locs, Pt.cells, Pt.slots] at X22 l22 y22 z22 st22 hQ22
    subst l22 y22 z22
    obtain ⟨rfl, Nq22, e22⟩ := hQ22
    have N22 := Fr.app N21 Nq22
    obtain ⟨cq23, kq23, q23a, q23b, q23c⟩ := isOf hZ17 e22 P5_17
    obtain ⟨_, _, ⟨T23, L23, k23, n23⟩, -, X23, ⟨Lc23, hQ23, l23, y23, z23⟩, st23⟩ := X22.virtualBack hx (y := My35) (z := My35) hown17 (mvT hZ17 (ww hw 245 rfl)) (mvT hZ17 (ww hw 246 rfl)) (notFace_of_selects (args := #[]) (mvT hZ17 (ww hw 248 rfl))) (mvT hZ17 (ww hw 248 rfl)) (mvT hZ17 (ww hw 247 rfl)) (by decide) (backOf (W := 0) (rm35_1 l Z a0 hw [] w_EMPTY_MAP w_cache w_mir0 w_mir1 z_COMPACT_STRINGS b61_17 r_68_17 T17.heap n0 O17 S P6_17) hZ17 (ww hw 249 rfl) (ww hw 2 rfl) (by decide) (by decide)) q23a q23c (g := (mkF m 56 #[vi p0, vi p1, va b1_1, va b3_3, va b61_17, vi 1, uu] [(.ref b61_17)])) rfl (by rw [hml]; rfl) (Steps.refl _) (argsL := []) (rest := []) (lenOf pd_29 rfl) rfl (by show 2 * 0 + _ ≤ _; exact Nat.le_of_eq rfl) (hb hby at_56) (fun _ _ => ⟨rfl, e22, (by decide : 15 + 0 ≤ _), (by decide : 104 + 0 ≤ _)⟩)
    dsimp only [Pt.U, Pt.locs, Pt.cells, Pt.slots] at X23 l23 y23 z23 st23 hQ23
    subst l23 y23 z23
    obtain ⟨rfl, Nq23, e23⟩ := hQ23
    have N23 := Fr.app N22 Nq23
    obtain ⟨fs, hr, hrun, hended, hRE⟩ := X23.leaveW (s := s) hS17 (by rw [e23]; exact (Nat.le_refl _)) (v := (some (.int 1))) (fun h => by rw [hrt] at h; cases h)
    refine ⟨_, _, pre_7 _ ?_, hrun, hended, _, _, rfl, ?_, hRE.1, hRE.2.1, hRE.2.2.1, hRE.2.2.2.mono (by decide) (by decide)⟩
    · show Steps p.tables e below (T4.setTop (mkF m 20 #[vi p0, vi p1, va b1_1, va b3_3, uu, uu, uu] [(.ref r_4), (.ref b3_3), (.ref b1_1)])) _
      refine st17.trans ?_
      refine XS.astore X17.here hx rfl (hb hby at_23) rfl rfl (l' := #[vi p0, vi p1, va b1_1, va b3_3, va b61_17, uu, uu]) rfl ?_
      refine XS.aloadN X17.here hx rfl (hb hby at_25) rfl rfl ?_
      refine st19.trans ?_
      refine XS.ifNo X19.here hx rfl (hb hby at_29) rfl ((if0 _ _).trans (feq (by decide : ¬ ((1 : Int32) = (0 : Int32)))).1) ?_
      refine XS.aloadN X19.here hx rfl (hb hby at_32) rfl rfl ?_
      refine st21.trans ?_
      refine XS.ifnonnullNo X21.here hx rfl (hb hby at_36) rfl ?_
      show Steps p.tables e below (T21.setTop (mkF m 39 #[vi p0, vi p1, va b1_1, va b3_3, va b61_17, uu, uu] [])) _
      refine XS.iconst X21.here hx rfl (hb hby at_39) ?_
      refine XS.goto X21.here hx rfl (pc0 := 40) (pc' := 44) rfl (hb hby at_40) (by decide) (by decide) ?_
      refine XS.istore X21.here hx rfl (hb hby at_44) rfl (l' := #[vi p0, vi p1, va b1_1, va b3_3, va b61_17, vi 1, uu]) rfl ?_
      refine XS.aload X21.here hx rfl (hb hby at_46) rfl rfl ?_
      refine st22.trans ?_
      refine XS.ifNo X22.here hx rfl (hb hby at_51) rfl ((if0 _ _).trans (feq (by decide : ¬ ((1 : Int32) = (0 : Int32)))).1) ?_
      refine XS.aload X22.here hx rfl (hb hby at_54) rfl rfl ?_
      refine st23.trans ?_
      show Steps p.tables e below (T23.setTop (mkF m 59 #[vi p0, vi p1, va b1_1, va b3_3, va b61_17, vi 1, uu] [.null])) _
      refine XS.ifnonnullNo X23.here hx rfl (hb hby at_59) rfl ?_
      refine XS.iconst X23.here hx rfl (hb hby at_62) ?_
      refine XS.goto X23.here hx rfl (pc0 := 63) (pc' := 67) rfl (hb hby at_63) (by decide) (by decide) ?_
      refine XS.istore X23.here hx rfl (hb hby at_67) rfl (l' := #[vi p0, vi p1, va b1_1, va b3_3, va b61_17, vi 1, vi 1]) rfl ?_
      refine XS.iload X23.here hx rfl (hb hby at_69) rfl ?_
      refine XS.ifNo X23.here hx rfl (hb hby at_71) rfl ((if0 _ _).trans (feq (by decide : ¬ ((1 : Int32) = (0 : Int32)))).1) ?_
      refine XS.iload X23.here hx rfl (hb hby at_74) rfl ?_
      refine XS.ifNo X23.here hx rfl (hb hby at_76) rfl ((if0 _ _).trans (feq (by decide : ¬ ((1 : Int32) = (0 : Int32)))).1) ?_
      show Steps p.tables e below (T23.setTop (mkF m 79 #[vi p0, vi p1, va b1_1, va b3_3, va b61_17, vi 1, vi 1] [])) _
      refine XS.aload X23.here hx rfl (hb hby at_79) rfl rfl ?_
      refine XS.aloadN X23.here hx rfl (hb hby at_81) rfl rfl ?_
      refine Jvm.RoadKit.acmp (g := (mkF m 82 #[vi p0, vi p1, va b1_1, va b3_3, va b61_17, vi 1, vi 1] [(.ref b1_1), (.ref b61_17)])) X23 hx rfl rfl rfl (pc0 := 82) (pc' := 85) (same := false) rfl (hb hby at_82) rfl (decide_eq_false fun q => (Ne.symm ne_b1_1_b61_17) (Value.ref.inj q)) (by decide) (by decide) ?_
      refine XS.iconst X23.here hx rfl (hb hby at_85) ?_
      refine XS.goto X23.here hx rfl (pc0 := 86) (pc' := 90) rfl (hb hby at_86) (by decide) (by decide) ?_
      exact retN X23 hx (t := .boolean) hrt (by simp) (hb hby at_90) hr
    · show Q0 n0 (some (.int 1)) T23.heap _
      exact (⟨rfl, N23⟩)
theorem comes_1 {Post : Tables → Env → Array Value → State → Outcome → State → Prop} (hpost : ∀ tb e args s v u, (limb_1_1.after args s (.returned v) u = true ∧ limb_1_2.after args s (.returned v) u = true ∧ True) → ReturnedEndW s (.returned v) u (Jvm.fieldLocs frame_1_writes args s ++ Jvm.arrayLocs frame_1_arrays args s ++ Jvm.staticLocs frame_1_statics s) 32 3264 → Post tb e args s (.returned v) u) :
    ArmFor flags0 classFile x code maxLocals ret World_1 tables_1 room_1 Calls_1 rest_1 Pre_1 Post := by
  intro l hfl _ _ p e ha hc hk s m args below hf hA hF happ hP
  obtain ⟨hcalls, hrest, hpre⟩ := hP
  obtain ⟨-, -, -, hnamed, -, -, -, hat⟩ := (Spec.applies_iff hf).mp happ
  obtain ⟨hg, hn⟩ := and_e (Cond.before_iff.mp (show (Jvm.Cond.and given_1 narrow_1).before args s = true from hpre))
  obtain ⟨g0, gr0⟩ := and_e hg
  obtain ⟨g1, gr1⟩ := and_e gr0
  obtain ⟨v0, v1, rfl⟩ : ∃ v0 v1 : Value, args = #[v0, v1] := by
    have hs : args.size = 2 := by simpa [Cond.value, given_1] using g0
    obtain ⟨L⟩ := args
    match L, hs with
    | [v0, v1], _ => exact ⟨v0, v1, rfl⟩
  have hw := fun d (hd : d ∈ tables_1) => atoms_spec (ws := Jvm.Cond.code x code maxLocals ret :: tables_1) hat d (List.mem_cons_of_mem _ hd)
  have hfit : Fit s := fun {y c} hc i hi => by
    obtain ⟨ha, rfl⟩ := Array.getElem?_eq_some_iff.mp hc
    have q := List.all_eq_true.mp ((Array.all_eq_true_iff_forall_mem.mp hF) _ (Array.getElem_mem ha)) i (List.mem_range.mpr hi)
    simpa [Array.getElem?_eq_getElem hi] using q
  obtain ⟨i0, ei0⟩ := is_v g1
  obtain rfl : v0 = (.int i0) := Option.some.inj ei0
  obtain ⟨i1, ei1⟩ := is_v gr1
  obtain rfl : v1 = (.int i1) := Option.some.inj ei1
  obtain ⟨hsets, hown0⟩ := atoms_of _ (rest_1_c_eq ▸ (show rest_1_c.before _ s = true from hrest))
  obtain ⟨w_EMPTY_MAP, ev_w_EMPTY_MAP⟩ := exa_v (Cond.before_iff.mp (hsets _ (List.mem_of_getElem? (i := 2) rfl)))
  have S_w_EMPTY_MAP := Sta.start ev_w_EMPTY_MAP (Or.inl (hsets _ (List.mem_of_getElem? (i := 1) rfl)))
  have E_w_EMPTY_MAP := Exa.start ev_w_EMPTY_MAP (Cond.before_iff.mp (hsets _ (List.mem_of_getElem? (i := 2) rfl)))
  have F_size_w_EMPTY_MAP := Fld.start ((fld_at ev_w_EMPTY_MAP).symm.trans (own_eqI (Cond.before_iff.mp (hsets _ (List.mem_of_getElem? (i := 6) rfl)))))
  obtain ⟨z_COMPACT_STRINGS, ev_z_COMPACT_STRINGS⟩ := is_v (Cond.before_iff.mp (hsets _ (List.mem_of_getElem? (i := 8) rfl)))
  have S_z_COMPACT_STRINGS := Sta.start ev_z_COMPACT_STRINGS (Or.inl (hsets _ (List.mem_of_getElem? (i := 7) rfl)))
  have hz_z_COMPACT_STRINGS : ¬ (z_COMPACT_STRINGS = (0 : Int32)) := own_ne0 ev_z_COMPACT_STRINGS (Cond.before_iff.mp (hsets _ (List.mem_of_getElem? (i := 9) rfl)))
  have S_Integer_IntegerCache_high := Sta.start (own_eqI (Cond.before_iff.mp (hsets _ (List.mem_of_getElem? (i := 19) rfl)))) (Or.inl (hsets _ (List.mem_of_getElem? (i := 17) rfl)))
  obtain ⟨w_cache, ev_w_cache⟩ := arr_v (Cond.before_iff.mp (hsets _ (List.mem_of_getElem? (i := 20) rfl)))
  have S_w_cache := Sta.start ev_w_cache (Or.inr ⟨(ww hw 51 rfl), (hsets _ (List.mem_of_getElem? (i := 18) rfl))⟩)
  obtain ⟨cl_w_cache, Ar_w_cache⟩ := Arr.start ev_w_cache (Cond.before_iff.mp (hsets _ (List.mem_of_getElem? (i := 20) rfl)))
  have V_w_cache : (∃ cl : Cell, Arr s s.heap w_cache cl (.object sC8) ∧ cl.slots.size = 256 ∧ ∀ j : Int32, ¬ (j < 0 ∨ cl.slots.size ≤ j.toNatClampNeg) → ∃ b : Addr, cl.slots[j.toNatClampNeg]? = some (.ref b)) := ⟨cl_w_cache, Ar_w_cache, own_size ev_w_cache Ar_w_cache (own_eqI (Cond.before_iff.mp (hsets _ (List.mem_of_getElem? (i := 22) rfl)))) (by decide), own_boxes (fun _ => ev_w_cache) Ar_w_cache (Cond.before_iff.mp (hsets _ (List.mem_of_getElem? (i := 23) rfl)))⟩
  obtain ⟨hc_1, hc_2, hc_3, -⟩ := hcalls
  obtain ⟨cm_w_mir0, km_w_mir0, w_mir0, m1_w_mir0, m2_w_mir0, m3_w_mir0⟩ := hc_1
  have M_w_mir0 : MirOf s sC1 w_mir0 := ⟨_, _, m1_w_mir0, m2_w_mir0, (by first | exact m3_w_mir0 | exact m3_w_mir0.1)⟩
  obtain ⟨cm_w_mir1, km_w_mir1, w_mir1, m1_w_mir1, m2_w_mir1, m3_w_mir1⟩ := hc_2
  have M_w_mir1 : MirOf s sC10 w_mir1 := ⟨_, _, m1_w_mir1, m2_w_mir1, (by first | exact m3_w_mir1 | exact m3_w_mir1.1)⟩
  have hch : CHO s s.heap.size s.vm s.heap := own_chStart (CHv.start (own_EW hw) hc_3 (hsets _ (List.mem_of_getElem? (i := 9) rfl)) (ww hw 36 rfl) (ww hw 32 rfl))
  obtain ⟨n, o, h1, h2, h3, _, L, rfl, ⟨rfl, N⟩, hq⟩ := rm0 l s _ hw tables_1 w_EMPTY_MAP w_cache w_mir0 w_mir1 z_COMPACT_STRINGS s.heap s.heap.size (Old.start s) ⟨M_w_mir0, M_w_mir1, S_w_EMPTY_MAP, E_w_EMPTY_MAP, F_size_w_EMPTY_MAP, S_z_COMPACT_STRINGS, hz_z_COMPACT_STRINGS, S_Integer_IntegerCache_high, S_w_cache, V_w_cache, trivial⟩ i0 i1 p e ha hc hk s m _ below hf ((Spec.applies_iff_loose hf).mp happ).1 ⟨rfl, State.Warmed39.refl s, rfl, hch⟩ trivial
  refine ⟨n, _, h1, h2, h3, hpost _ _ _ _ _ _ ⟨Cond.after_iff.mpr rfl, Cond.after_iff.mpr (eq_i res_at (Term.int_eval (1)) rfl), trivial⟩ ⟨hq.1, hq.2.1, hq.2.2.1, (hq.2.2.2.sift fun y hy => Or.inr (N y hy)).mono (by decide) (by decide)⟩⟩
theorem main_1_1 : Claimed_1_1 := comes_1 fun _ _ _ _ _ _ h hF => ⟨h.1, hF⟩
theorem main_1_2 : Claimed_1_2 := comes_1 fun _ _ _ _ _ _ h hF => ⟨h.2.1, hF⟩
end Jvm.Pilot.@@N@@
namespace Jvm.Pilot.@@N@@
open Jvm Jvm.ClassFile Sem Op Lib Jvm.Free Jvm.Stand Jvm.Pilot.@@N@@.Jvm.D
/-! MADE BY PROGRAM (witnessworld.py) out of the Statement's table words and the real class files: 36 classes; the members and pool entries that the words name. The judged class is class 1, her method 1. -/
namespace start1
open Jvm.ClassFile
def u (s : String) : CpInfo := .utf8 (stringToUtf16 s)
/-- a pool by its gaps: so many unusable entries, then the entry; so many at the end -/
def gap : Nat → List CpInfo → List CpInfo
  | 0, r => r
  | n + 1, r => .unusable :: gap n r
def poolList (es : List (Nat × CpInfo)) (last : Nat) : List CpInfo := es.foldr (fun e r => gap e.1 (e.2 :: r)) (gap last [])
def pool (es : List (Nat × CpInfo)) (last : Nat) : Array CpInfo := ⟨poolList es last⟩
def fileOf (pool : Array CpInfo) (this : Nat) (attrs : Array Attribute := #[]) (ms : Array MethodInfo := #[]) (fl : Nat := 33) (sup : Nat := 0) (ifs : Array Nat := #[]) (fds : Array FieldInfo := #[]) : ClassFile where
  minorVersion := 0
  majorVersion := 65
  constantPool := pool
  accessFlags := fl
  thisClass := this
  superClass := sup
  interfaces := ifs
  fields := fds
  methods := ms
  attributes := attrs
def plain (name : String) (sup : Option ClassId) : Class where
  name := name
  kind := .ordinary
  loader := none
  accessFlags := 33
  super := sup
  interfaces := #[]
  cf := none
  fields := #[]
  methods := #[]
  instanceTypes := #[]
  staticTypes := #[]
  resolved := #[]
  callSites := []
  init := .initialized
  statics := none
  mirror := none

def pool0 : Array CpInfo := pool [(5, u "<init>"), (0, u "()V"), (1, .class_ 10), (1, u "java/lang/Object"), (0, u "getClass"), (0, u "()Ljava/lang/Class;"), (14, u "hashCode"), (0, u "()I")] 95

def k0c0 : Code := { maxStack := 0, maxLocals := 1, code := object_method_1_code, exceptionTable := #[], attributes := #[] }
def k0m0 : Method := { name := "<init>", desc := "()V", sig := { parameters := [], returnType := none }, accessFlags := 1, code := some k0c0 }
def k0m1 : Method := { name := "getClass", desc := "()Ljava/lang/Class;", sig := { parameters := [], returnType := some (.object "java/lang/Class") }, accessFlags := 273, code := none }
def k0m2 : Method := { name := "hashCode", desc := "()I", sig := { parameters := [], returnType := some .int }, accessFlags := 257, code := none }
/-- java/lang/Object -/
def k0 : Class := { plain "java/lang/Object" none with
  accessFlags := 33
  interfaces := #[]
  cf := some (fileOf pool0 8 #[] #[{ accessFlags := 1, nameIndex := 5, descriptorIndex := 6, attributes := #[] }, { accessFlags := 273, nameIndex := 11, descriptorIndex := 12, attributes := #[] }, { accessFlags := 257, nameIndex := 27, descriptorIndex := 28, attributes := #[] }] 33 0 #[] #[])
  fields := #[]
  methods := #[k0m0, k0m1, k0m2]
  instanceTypes := #[]
  staticTypes := #[]
  resolved := Array.replicate 124 none
  statics := none }

def pool1 : Array CpInfo := pool [(2, .class_ 4), (1, u "java/lang/Object"), (0, u "<init>"), (0, u "()V"), (0, .methodref 8 9), (0, .class_ 10), (0, .nameAndType 11 12), (0, u "com/example/bowline/bowline/sdk/TaskResult"), (0, u "success"), (0, u "()Lcom/example/bowline/bowline/sdk/TaskResult;"), (0, .methodref 14 15), (0, .class_ 16), (0, .nameAndType 17 18), (0, u "java/lang/String"), (0, u "valueOf"), (0, u "(C)Ljava/lang/String;"), (0, .methodref 20 21), (0, .class_ 22), (0, .nameAndType 17 23), (0, u "java/lang/Integer"), (0, u "(I)Ljava/lang/Integer;"), (0, .methodref 8 25), (0, .nameAndType 26 27), (0, u "value"), (0, u "(Ljava/lang/String;Ljava/lang/Object;)Lcom/example/bowline/bowline/sdk/TaskResult;"), (0, .methodref 8 29), (0, .nameAndType 30 31), (0, u "ok"), (0, u "()Z"), (0, .methodref 8 33), (0, .nameAndType 34 35), (0, u "errorMessage"), (0, u "()Ljava/lang/String;"), (0, .class_ 37), (0, u "com/example/bowline/bowline/sdk/TaskResultSuccessPinLaw"), (2, u "law"), (0, u "(II)Z")] 3

def k1m0 : Method := { name := "<init>", desc := "()V", sig := { parameters := [], returnType := none }, accessFlags := 1, code := none }
def k1c1 : Code := { maxStack := 3, maxLocals := 7, code := code, exceptionTable := #[], attributes := #[] }
def k1m1 : Method := { name := "law", desc := "(II)Z", sig := { parameters := [.int, .int], returnType := some .boolean }, accessFlags := 9, code := some k1c1 }
/-- com/example/bowline/bowline/sdk/TaskResultSuccessPinLaw -/
def k1 : Class := { plain "com/example/bowline/bowline/sdk/TaskResultSuccessPinLaw" (some 0) with
  accessFlags := 49
  interfaces := #[]
  cf := some (fileOf pool1 36 #[] #[{ accessFlags := 1, nameIndex := 5, descriptorIndex := 6, attributes := #[] }, { accessFlags := 9, nameIndex := 40, descriptorIndex := 41, attributes := #[] }] 49 2 #[] #[])
  fields := #[]
  methods := #[k1m0, k1m1]
  instanceTypes := #[]
  staticTypes := #[]
  resolved := Array.replicate 45 none
  statics := none }

def pool2 : Array CpInfo := pool [(1, .methodref 2 3), (0, .class_ 4), (0, .nameAndType 5 6), (0, u "java/lang/Object"), (0, u "<init>"), (0, u "()V"), (0, .fieldref 8 9), (0, .class_ 10), (0, .nameAndType 11 12), (0, u "com/example/bowline/bowline/sdk/TaskResult"), (0, u "errorMessage"), (0, u "Ljava/lang/String;"), (0, .fieldref 8 14), (0, .nameAndType 15 16), (0, u "values"), (0, u "Ljava/util/Map;"), (0, .interfaceMethodref 18 19), (0, .class_ 20), (0, .nameAndType 21 22), (0, u "java/util/Map"), (0, u "of"), (0, u "()Ljava/util/Map;"), (0, .methodref 8 24), (0, .nameAndType 5 25), (0, u "(Ljava/lang/String;Ljava/util/Map;)V"), (2, .methodref 29 30), (0, .class_ 31), (0, .nameAndType 32 33), (0, u "java/util/Objects"), (0, u "requireNonNull"), (0, u "(Ljava/lang/Object;Ljava/lang/String;)Ljava/lang/Object;"), (0, .class_ 35), (0, u "java/lang/String"), (0, .string 37), (0, u "name"), (0, .string 39), (0, u "ok"), (0, .methodref 34 41), (0, .nameAndType 42 43), (0, u "equals"), (0, u "(Ljava/lang/Object;)Z"), (0, .string 45), (0, u "error"), (9, .class_ 56), (0, u "java/util/LinkedHashMap"), (0, .methodref 55 58), (0, .nameAndType 5 59), (0, u "(Ljava/util/Map;)V"), (0, .interfaceMethodref 18 61), (0, .nameAndType 62 63), (0, u "put"), (0, u "(Ljava/lang/Object;Ljava/lang/Object;)Ljava/lang/Object;"), (0, .methodref 65 66), (0, .class_ 67), (0, .nameAndType 68 69), (0, u "java/util/Collections"), (0, u "unmodifiableMap"), (0, u "(Ljava/util/Map;)Ljava/util/Map;"), (3, u "()Z"), (9, u "OK"), (1, u "ERROR"), (5, u "success"), (0, u "()Lcom/example/bowline/bowline/sdk/TaskResult;"), (1, u "value"), (0, u "(Ljava/lang/String;Ljava/lang/Object;)Lcom/example/bowline/bowline/sdk/TaskResult;"), (1, u "()Ljava/lang/String;")] 19

def k2c0 : Code := { maxStack := 2, maxLocals := 3, code := prog_19_method_1_code, exceptionTable := #[], attributes := #[] }
def k2m0 : Method := { name := "<init>", desc := "(Ljava/lang/String;Ljava/util/Map;)V", sig := { parameters := [(.object "java/lang/String"), (.object "java/util/Map")], returnType := none }, accessFlags := 2, code := some k2c0 }
def k2c1 : Code := { maxStack := 4, maxLocals := 0, code := prog_19_method_2_code, exceptionTable := #[], attributes := #[] }
def k2m1 : Method := { name := "success", desc := "()Lcom/example/bowline/bowline/sdk/TaskResult;", sig := { parameters := [], returnType := some (.object "com/example/bowline/bowline/sdk/TaskResult") }, accessFlags := 9, code := some k2c1 }
def k2c2 : Code := { maxStack := 4, maxLocals := 4, code := prog_19_method_4_code, exceptionTable := #[], attributes := #[] }
def k2m2 : Method := { name := "value", desc := "(Ljava/lang/String;Ljava/lang/Object;)Lcom/example/bowline/bowline/sdk/TaskResult;", sig := { parameters := [(.object "java/lang/String"), (.object "java/lang/Object")], returnType := some (.object "com/example/bowline/bowline/sdk/TaskResult") }, accessFlags := 1, code := some k2c2 }
def k2c3 : Code := { maxStack := 1, maxLocals := 1, code := prog_19_method_5_code, exceptionTable := #[], attributes := #[] }
def k2m3 : Method := { name := "ok", desc := "()Z", sig := { parameters := [], returnType := some .boolean }, accessFlags := 1, code := some k2c3 }
def k2c4 : Code := { maxStack := 1, maxLocals := 1, code := prog_19_method_6_code, exceptionTable := #[], attributes := #[] }
def k2m4 : Method := { name := "errorMessage", desc := "()Ljava/lang/String;", sig := { parameters := [], returnType := some (.object "java/lang/String") }, accessFlags := 1, code := some k2c4 }
/-- com/example/bowline/bowline/sdk/TaskResult -/
def k2 : Class := { plain "com/example/bowline/bowline/sdk/TaskResult" (some 0) with
  accessFlags := 49
  interfaces := #[]
  cf := some (fileOf pool2 8 #[] #[{ accessFlags := 2, nameIndex := 5, descriptorIndex := 25, attributes := #[] }, { accessFlags := 9, nameIndex := 91, descriptorIndex := 92, attributes := #[] }, { accessFlags := 1, nameIndex := 94, descriptorIndex := 95, attributes := #[] }, { accessFlags := 1, nameIndex := 39, descriptorIndex := 73, attributes := #[] }, { accessFlags := 1, nameIndex := 11, descriptorIndex := 97, attributes := #[] }] 49 2 #[] #[{ accessFlags := 25, nameIndex := 83, descriptorIndex := 12, attributes := #[] }, { accessFlags := 25, nameIndex := 85, descriptorIndex := 12, attributes := #[] }, { accessFlags := 18, nameIndex := 11, descriptorIndex := 12, attributes := #[] }, { accessFlags := 18, nameIndex := 15, descriptorIndex := 16, attributes := #[] }])
  fields := #[{ name := "OK", type := (.object "java/lang/String"), accessFlags := 25, slot := 0, constantValue := 0 }, { name := "ERROR", type := (.object "java/lang/String"), accessFlags := 25, slot := 1, constantValue := 0 }, { name := "errorMessage", type := (.object "java/lang/String"), accessFlags := 18, slot := 0, constantValue := 0 }, { name := "values", type := (.object "java/util/Map"), accessFlags := 18, slot := 1, constantValue := 0 }]
  methods := #[k2m0, k2m1, k2m2, k2m3, k2m4]
  instanceTypes := #[(.object "java/lang/String"), (.object "java/util/Map")]
  staticTypes := #[(.object "java/lang/String"), (.object "java/lang/String")]
  resolved := Array.replicate 117 none
  statics := none }

def pool3 : Array CpInfo := pool [(2, .class_ 4), (1, u "java/util/Map"), (31, .class_ 37), (0, u "java/util/Map$Entry"), (25, u "(Ljava/lang/Object;Ljava/lang/Object;)Ljava/lang/Object;"), (5, u "put"), (11, .fieldref 82 83), (0, .class_ 84), (0, .nameAndType 85 86), (0, u "java/util/ImmutableCollections"), (0, u "EMPTY_MAP"), (0, u "Ljava/util/ImmutableCollections$MapN;"), (6, .class_ 94), (0, u "java/lang/Object"), (13, u "of"), (0, u "()Ljava/util/Map;"), (10, u "size"), (0, u "()I")] 141

def k3m0 : Method := { name := "size", desc := "()I", sig := { parameters := [], returnType := some .int }, accessFlags := 1025, code := none }
def k3m1 : Method := { name := "put", desc := "(Ljava/lang/Object;Ljava/lang/Object;)Ljava/lang/Object;", sig := { parameters := [(.object "java/lang/Object"), (.object "java/lang/Object")], returnType := some (.object "java/lang/Object") }, accessFlags := 1025, code := none }
def k3c2 : Code := { maxStack := 1, maxLocals := 0, code := jdk_72_method_26_code, exceptionTable := #[], attributes := #[] }
def k3m2 : Method := { name := "of", desc := "()Ljava/util/Map;", sig := { parameters := [], returnType := some (.object "java/util/Map") }, accessFlags := 9, code := some k3c2 }
/-- java/util/Map -/
def k3 : Class := { plain "java/util/Map" (some 0) with
  accessFlags := 1537
  interfaces := #[]
  cf := some (fileOf pool3 2 #[.nestMembers #[36]] #[{ accessFlags := 1025, nameIndex := 120, descriptorIndex := 121, attributes := #[] }, { accessFlags := 1025, nameIndex := 69, descriptorIndex := 63, attributes := #[] }, { accessFlags := 9, nameIndex := 108, descriptorIndex := 109, attributes := #[] }] 1537 93 #[] #[])
  fields := #[]
  methods := #[k3m0, k3m1, k3m2]
  instanceTypes := #[]
  staticTypes := #[]
  resolved := Array.replicate 263 none
  statics := none }

def pool4 : Array CpInfo := pool [(2, .class_ 4), (1, u "java/lang/Object"), (0, u "<init>"), (0, u "()V"), (3, .class_ 11), (0, u "java/util/ImmutableCollections$List12"), (0, .class_ 13), (0, u "java/util/ImmutableCollections$ListN"), (3, u "Z"), (29, .class_ 49), (1, u "java/util/ImmutableCollections"), (0, u "$assertionsDisabled"), (5, u "[Ljava/lang/Object;"), (5, u "EMPTY_LIST"), (0, u "Ljava/util/ImmutableCollections$ListN;"), (8, u "EMPTY_LIST_NULLS"), (22, u "SALT32L"), (0, u "J"), (2, u "REVERSE"), (6, u "archivedObjects"), (2, u "EMPTY"), (0, u "Ljava/lang/Object;"), (0, .class_ 112), (0, u "java/util/ImmutableCollections$SetN"), (5, u "EMPTY_SET"), (0, u "Ljava/util/ImmutableCollections$SetN;"), (0, .class_ 121), (0, u "java/util/ImmutableCollections$MapN"), (3, u "EMPTY_MAP"), (0, u "Ljava/util/ImmutableCollections$MapN;"), (4, u "EXPAND_FACTOR"), (0, u "I"), (36, .class_ 170), (0, u "java/util/ImmutableCollections$MapN$MapNIterator"), (0, .class_ 172), (0, u "java/util/ImmutableCollections$MapN$1"), (0, .class_ 174), (0, u "java/util/ImmutableCollections$Map1"), (0, .class_ 176), (0, u "java/util/ImmutableCollections$AbstractImmutableMap"), (0, .class_ 178), (0, u "java/util/ImmutableCollections$SetN$SetNIterator"), (0, .class_ 180), (0, u "java/util/ImmutableCollections$Set12"), (0, .class_ 182), (0, u "java/util/ImmutableCollections$Set12$1"), (0, .class_ 184), (0, u "java/util/ImmutableCollections$AbstractImmutableSet"), (0, .class_ 186), (0, u "java/util/ImmutableCollections$SubList"), (0, .class_ 188), (0, u "java/util/ImmutableCollections$ListItr"), (0, .class_ 190), (0, u "java/util/ImmutableCollections$AbstractImmutableList"), (0, .class_ 192), (0, u "java/util/ImmutableCollections$AbstractImmutableCollection"), (0, .class_ 194), (0, u "java/util/ImmutableCollections$Access"), (0, .class_ 196), (0, u "java/util/ImmutableCollections$Access$1")] 16

def k4m0 : Method := { name := "<init>", desc := "()V", sig := { parameters := [], returnType := none }, accessFlags := 2, code := none }
/-- java/util/ImmutableCollections -/
def k4 : Class := { plain "java/util/ImmutableCollections" (some 0) with
  accessFlags := 32
  interfaces := #[]
  cf := some (fileOf pool4 47 #[.nestMembers #[120, 169, 171, 173, 175, 111, 177, 179, 181, 183, 12, 10, 185, 187, 189, 191, 193, 195]] #[{ accessFlags := 2, nameIndex := 5, descriptorIndex := 6, attributes := #[] }] 32 2 #[] #[{ accessFlags := 26, nameIndex := 95, descriptorIndex := 96, attributes := #[] }, { accessFlags := 26, nameIndex := 99, descriptorIndex := 17, attributes := #[] }, { accessFlags := 10, nameIndex := 106, descriptorIndex := 56, attributes := #[] }, { accessFlags := 26, nameIndex := 109, descriptorIndex := 110, attributes := #[] }, { accessFlags := 24, nameIndex := 62, descriptorIndex := 63, attributes := #[] }, { accessFlags := 24, nameIndex := 72, descriptorIndex := 63, attributes := #[] }, { accessFlags := 24, nameIndex := 118, descriptorIndex := 119, attributes := #[] }, { accessFlags := 24, nameIndex := 125, descriptorIndex := 126, attributes := #[] }, { accessFlags := 24, nameIndex := 131, descriptorIndex := 132, attributes := #[] }, { accessFlags := 4120, nameIndex := 50, descriptorIndex := 17, attributes := #[] }])
  fields := #[{ name := "SALT32L", type := .long, accessFlags := 26, slot := 0, constantValue := 0 }, { name := "REVERSE", type := .boolean, accessFlags := 26, slot := 1, constantValue := 0 }, { name := "archivedObjects", type := (.array (.object "java/lang/Object")), accessFlags := 10, slot := 2, constantValue := 0 }, { name := "EMPTY", type := (.object "java/lang/Object"), accessFlags := 26, slot := 3, constantValue := 0 }, { name := "EMPTY_LIST", type := (.object "java/util/ImmutableCollections$ListN"), accessFlags := 24, slot := 4, constantValue := 0 }, { name := "EMPTY_LIST_NULLS", type := (.object "java/util/ImmutableCollections$ListN"), accessFlags := 24, slot := 5, constantValue := 0 }, { name := "EMPTY_SET", type := (.object "java/util/ImmutableCollections$SetN"), accessFlags := 24, slot := 6, constantValue := 0 }, { name := "EMPTY_MAP", type := (.object "java/util/ImmutableCollections$MapN"), accessFlags := 24, slot := 7, constantValue := 0 }, { name := "EXPAND_FACTOR", type := .int, accessFlags := 24, slot := 8, constantValue := 0 }, { name := "$assertionsDisabled", type := .boolean, accessFlags := 4120, slot := 9, constantValue := 0 }]
  methods := #[k4m0]
  instanceTypes := #[]
  staticTypes := #[.long, .boolean, (.array (.object "java/lang/Object")), (.object "java/lang/Object"), (.object "java/util/ImmutableCollections$ListN"), (.object "java/util/ImmutableCollections$ListN"), (.object "java/util/ImmutableCollections$SetN"), (.object "java/util/ImmutableCollections$MapN"), .int, .boolean]
  resolved := Array.replicate 213 none
  statics := some 0 }

def pool5 : Array CpInfo := pool [(1, .class_ 2), (0, u "java/io/Serializable"), (0, .class_ 4), (0, u "java/lang/Object")] 2

/-- java/io/Serializable -/
def k5 : Class := { plain "java/io/Serializable" (some 0) with
  accessFlags := 1537
  interfaces := #[]
  cf := some (fileOf pool5 1 #[] #[] 1537 3 #[] #[])
  fields := #[]
  methods := #[]
  instanceTypes := #[]
  staticTypes := #[]
  resolved := Array.replicate 7 none
  statics := none }

def pool6 : Array CpInfo := pool [(1, .class_ 2), (0, u "java/lang/Comparable"), (0, .class_ 4), (0, u "java/lang/Object")] 7

/-- java/lang/Comparable -/
def k6 : Class := { plain "java/lang/Comparable" (some 0) with
  accessFlags := 1537
  interfaces := #[]
  cf := some (fileOf pool6 1 #[] #[] 1537 3 #[] #[])
  fields := #[]
  methods := #[]
  instanceTypes := #[]
  staticTypes := #[]
  resolved := Array.replicate 12 none
  statics := none }

def pool7 : Array CpInfo := pool [(2, .class_ 4), (1, u "java/lang/CharSequence"), (42, .class_ 48), (0, u "java/lang/CharSequence$1CodePointIterator"), (10, .class_ 60), (0, u "java/lang/CharSequence$1CharIterator"), (5, .class_ 67), (0, u "java/lang/Object")] 63

/-- java/lang/CharSequence -/
def k7 : Class := { plain "java/lang/CharSequence" (some 0) with
  accessFlags := 1537
  interfaces := #[]
  cf := some (fileOf pool7 2 #[.nestMembers #[47, 59]] #[] 1537 66 #[] #[])
  fields := #[]
  methods := #[]
  instanceTypes := #[]
  staticTypes := #[]
  resolved := Array.replicate 131 none
  statics := none }

def pool8 : Array CpInfo := pool [(1, .class_ 2), (0, u "java/lang/constant/Constable"), (0, .class_ 4), (0, u "java/lang/Object")] 6

/-- java/lang/constant/Constable -/
def k8 : Class := { plain "java/lang/constant/Constable" (some 0) with
  accessFlags := 1537
  interfaces := #[]
  cf := some (fileOf pool8 1 #[] #[] 1537 3 #[] #[])
  fields := #[]
  methods := #[]
  instanceTypes := #[]
  staticTypes := #[]
  resolved := Array.replicate 11 none
  statics := none }

def pool9 : Array CpInfo := pool [(1, .class_ 2), (0, u "java/lang/constant/ConstantDesc"), (0, .class_ 4), (0, u "java/lang/Object")] 32

/-- java/lang/constant/ConstantDesc -/
def k9 : Class := { plain "java/lang/constant/ConstantDesc" (some 0) with
  accessFlags := 1537
  interfaces := #[]
  cf := some (fileOf pool9 1 #[] #[] 1537 3 #[] #[])
  fields := #[]
  methods := #[]
  instanceTypes := #[]
  staticTypes := #[]
  resolved := Array.replicate 37 none
  statics := none }

def pool10 : Array CpInfo := pool [(1, .methodref 2 3), (0, .class_ 4), (0, .nameAndType 5 6), (0, u "java/lang/Object"), (0, u "<init>"), (0, u "()V"), (2, .fieldref 10 11), (0, .class_ 12), (0, .nameAndType 13 14), (0, u "java/lang/String"), (0, u "value"), (0, u "[B"), (0, .fieldref 10 16), (0, .nameAndType 17 18), (0, u "coder"), (0, u "B"), (0, .fieldref 10 20), (0, .nameAndType 21 22), (0, u "hash"), (0, u "I"), (0, .fieldref 10 24), (0, .nameAndType 25 26), (0, u "hashIsZero"), (0, u "Z"), (11, .fieldref 10 39), (0, .nameAndType 40 26), (0, u "COMPACT_STRINGS"), (12, u "toBytes"), (53, .class_ 109), (1, u "java/lang/StringLatin1"), (32, u "()Z"), (66, .methodref 10 210), (0, .nameAndType 5 211), (0, u "([BB)V"), (122, u "()I"), (34, u "(C)Z"), (122, .methodref 10 493), (0, .nameAndType 494 142), (0, u "isLatin1"), (46, .methodref 107 542), (0, .nameAndType 543 544), (0, u "equals"), (0, u "([B[B)Z"), (28, u "(Ljava/lang/Object;)Z"), (1, .class_ 576), (0, u "java/lang/CharSequence"), (22, u "CASE_INSENSITIVE_ORDER"), (0, u "Ljava/util/Comparator;"), (27, .methodref 107 629), (0, .nameAndType 630 631), (0, u "hashCode"), (0, u "([B)I"), (150, u "valueOf"), (0, u "(C)Ljava/lang/String;"), (231, .methodref 107 1016), (0, .nameAndType 1017 369), (0, u "canEncode"), (0, .methodref 107 1019), (0, .nameAndType 53 1020), (0, u "(C)[B"), (80, u "serialPersistentFields"), (0, u "[Ljava/io/ObjectStreamField;"), (0, .class_ 1104), (0, u "java/lang/String$CaseInsensitiveComparator"), (1, .class_ 1107), (0, u "java/io/Serializable"), (0, .class_ 1109), (0, u "java/lang/Comparable"), (0, .class_ 1111), (0, u "java/lang/constant/Constable"), (0, .class_ 1113), (0, u "java/lang/constant/ConstantDesc"), (2, u "serialVersionUID"), (0, u "J"), (3, u "REPL"), (0, u "C"), (2, u "LATIN1"), (1, u "UTF16")] 323

def k10m0 : Method := { name := "<init>", desc := "()V", sig := { parameters := [], returnType := none }, accessFlags := 1, code := none }
def k10c1 : Code := { maxStack := 2, maxLocals := 3, code := jdk_42_method_66_code, exceptionTable := #[], attributes := #[] }
def k10m1 : Method := { name := "equals", desc := "(Ljava/lang/Object;)Z", sig := { parameters := [(.object "java/lang/Object")], returnType := some .boolean }, accessFlags := 1, code := some k10c1 }
def k10c2 : Code := { maxStack := 2, maxLocals := 2, code := jdk_42_method_78_code, exceptionTable := #[], attributes := #[] }
def k10m2 : Method := { name := "hashCode", desc := "()I", sig := { parameters := [], returnType := some .int }, accessFlags := 1, code := some k10c2 }
def k10c3 : Code := { maxStack := 4, maxLocals := 1, code := jdk_42_method_139_code, exceptionTable := #[], attributes := #[] }
def k10m3 : Method := { name := "valueOf", desc := "(C)Ljava/lang/String;", sig := { parameters := [.char], returnType := some (.object "java/lang/String") }, accessFlags := 9, code := some k10c3 }
def k10c4 : Code := { maxStack := 2, maxLocals := 3, code := jdk_42_method_151_code, exceptionTable := #[], attributes := #[] }
def k10m4 : Method := { name := "<init>", desc := "([BB)V", sig := { parameters := [(.array .byte), .byte], returnType := none }, accessFlags := 0, code := some k10c4 }
def k10c5 : Code := { maxStack := 1, maxLocals := 1, code := jdk_42_method_154_code, exceptionTable := #[], attributes := #[] }
def k10m5 : Method := { name := "isLatin1", desc := "()Z", sig := { parameters := [], returnType := some .boolean }, accessFlags := 0, code := some k10c5 }
/-- java/lang/String -/
def k10 : Class := { plain "java/lang/String" (some 0) with
  accessFlags := 49
  interfaces := #[5, 6, 7, 8, 9]
  cf := some (fileOf pool10 10 #[.nestMembers #[1103]] #[{ accessFlags := 1, nameIndex := 5, descriptorIndex := 6, attributes := #[] }, { accessFlags := 1, nameIndex := 543, descriptorIndex := 573, attributes := #[] }, { accessFlags := 1, nameIndex := 630, descriptorIndex := 334, attributes := #[] }, { accessFlags := 9, nameIndex := 782, descriptorIndex := 783, attributes := #[] }, { accessFlags := 0, nameIndex := 5, descriptorIndex := 211, attributes := #[] }, { accessFlags := 0, nameIndex := 494, descriptorIndex := 142, attributes := #[] }] 49 2 #[1106, 1108, 575, 1110, 1112] #[{ accessFlags := 18, nameIndex := 13, descriptorIndex := 14, attributes := #[] }, { accessFlags := 18, nameIndex := 17, descriptorIndex := 18, attributes := #[] }, { accessFlags := 2, nameIndex := 21, descriptorIndex := 22, attributes := #[] }, { accessFlags := 2, nameIndex := 25, descriptorIndex := 26, attributes := #[] }, { accessFlags := 26, nameIndex := 1116, descriptorIndex := 1117, attributes := #[] }, { accessFlags := 24, nameIndex := 40, descriptorIndex := 26, attributes := #[] }, { accessFlags := 26, nameIndex := 1101, descriptorIndex := 1102, attributes := #[] }, { accessFlags := 26, nameIndex := 1121, descriptorIndex := 1122, attributes := #[] }, { accessFlags := 25, nameIndex := 599, descriptorIndex := 600, attributes := #[] }, { accessFlags := 24, nameIndex := 1125, descriptorIndex := 18, attributes := #[] }, { accessFlags := 24, nameIndex := 1127, descriptorIndex := 18, attributes := #[] }])
  fields := #[{ name := "value", type := (.array .byte), accessFlags := 18, slot := 0, constantValue := 0 }, { name := "coder", type := .byte, accessFlags := 18, slot := 1, constantValue := 0 }, { name := "hash", type := .int, accessFlags := 2, slot := 2, constantValue := 0 }, { name := "hashIsZero", type := .boolean, accessFlags := 2, slot := 3, constantValue := 0 }, { name := "serialVersionUID", type := .long, accessFlags := 26, slot := 0, constantValue := 0 }, { name := "COMPACT_STRINGS", type := .boolean, accessFlags := 24, slot := 1, constantValue := 0 }, { name := "serialPersistentFields", type := (.array (.object "java/io/ObjectStreamField")), accessFlags := 26, slot := 2, constantValue := 0 }, { name := "REPL", type := .char, accessFlags := 26, slot := 3, constantValue := 0 }, { name := "CASE_INSENSITIVE_ORDER", type := (.object "java/util/Comparator"), accessFlags := 25, slot := 4, constantValue := 0 }, { name := "LATIN1", type := .byte, accessFlags := 24, slot := 5, constantValue := 0 }, { name := "UTF16", type := .byte, accessFlags := 24, slot := 6, constantValue := 0 }]
  methods := #[k10m0, k10m1, k10m2, k10m3, k10m4, k10m5]
  instanceTypes := #[(.array .byte), .byte, .int, .boolean]
  staticTypes := #[.long, .boolean, (.array (.object "java/io/ObjectStreamField")), .char, (.object "java/util/Comparator"), .byte, .byte]
  resolved := Array.replicate 1451 none
  statics := some 1 }

def pool11 : Array CpInfo := pool [(4, .class_ 6), (1, u "java/lang/Object"), (0, u "<init>"), (0, u "()V"), (5, .class_ 16), (1, u "java/lang/StringLatin1"), (40, u "([B)I"), (32, u "canEncode"), (14, u "(C)Z"), (15, u "$assertionsDisabled"), (0, u "Z"), (98, .class_ 223), (1, u "java/lang/StringLatin1$LinesSpliterator"), (57, u "equals"), (0, u "([B[B)Z"), (15, u "hashCode"), (81, u "toBytes"), (1, u "(C)[B"), (7, .class_ 391), (0, u "java/lang/StringLatin1$CharsSpliterator")] 3

def k11m0 : Method := { name := "<init>", desc := "()V", sig := { parameters := [], returnType := none }, accessFlags := 0, code := none }
def k11c1 : Code := { maxStack := 2, maxLocals := 1, code := jdk_43_method_3_code, exceptionTable := #[], attributes := #[] }
def k11m1 : Method := { name := "canEncode", desc := "(C)Z", sig := { parameters := [.char], returnType := some .boolean }, accessFlags := 9, code := some k11c1 }
def k11c2 : Code := { maxStack := 3, maxLocals := 3, code := jdk_43_method_13_code, exceptionTable := #[], attributes := #[] }
def k11m2 : Method := { name := "equals", desc := "([B[B)Z", sig := { parameters := [(.array .byte), (.array .byte)], returnType := some .boolean }, accessFlags := 9, code := some k11c2 }
def k11c3 : Code := { maxStack := 5, maxLocals := 1, code := jdk_43_method_21_code, exceptionTable := #[], attributes := #[] }
def k11m3 : Method := { name := "hashCode", desc := "([B)I", sig := { parameters := [(.array .byte)], returnType := some .int }, accessFlags := 9, code := some k11c3 }
def k11c4 : Code := { maxStack := 4, maxLocals := 1, code := jdk_43_method_46_code, exceptionTable := #[], attributes := #[] }
def k11m4 : Method := { name := "toBytes", desc := "(C)[B", sig := { parameters := [.char], returnType := some (.array .byte) }, accessFlags := 9, code := some k11c4 }
/-- java/lang/StringLatin1 -/
def k11 : Class := { plain "java/lang/StringLatin1" (some 0) with
  accessFlags := 48
  interfaces := #[]
  cf := some (fileOf pool11 14 #[.nestMembers #[390, 221]] #[{ accessFlags := 0, nameIndex := 7, descriptorIndex := 8, attributes := #[] }, { accessFlags := 9, nameIndex := 90, descriptorIndex := 105, attributes := #[] }, { accessFlags := 9, nameIndex := 281, descriptorIndex := 282, attributes := #[] }, { accessFlags := 9, nameIndex := 298, descriptorIndex := 57, attributes := #[] }, { accessFlags := 9, nameIndex := 380, descriptorIndex := 382, attributes := #[] }] 48 4 #[] #[{ accessFlags := 4120, nameIndex := 121, descriptorIndex := 122, attributes := #[] }])
  fields := #[{ name := "$assertionsDisabled", type := .boolean, accessFlags := 4120, slot := 0, constantValue := 0 }]
  methods := #[k11m0, k11m1, k11m2, k11m3, k11m4]
  instanceTypes := #[]
  staticTypes := #[.boolean]
  resolved := Array.replicate 395 none
  statics := none }

def pool12 : Array CpInfo := pool [(1, .methodref 2 3), (0, .class_ 4), (0, .nameAndType 5 6), (0, u "java/lang/Object"), (0, u "<init>"), (0, u "()V"), (1, .class_ 10), (1, u "java/lang/Number"), (2, .class_ 14), (0, u "java/io/Serializable"), (0, u "serialVersionUID"), (0, u "J")] 20

def k12c0 : Code := { maxStack := 1, maxLocals := 1, code := jdk_18_method_1_code, exceptionTable := #[], attributes := #[] }
def k12m0 : Method := { name := "<init>", desc := "()V", sig := { parameters := [], returnType := none }, accessFlags := 1, code := some k12c0 }
/-- java/lang/Number -/
def k12 : Class := { plain "java/lang/Number" (some 0) with
  accessFlags := 1057
  interfaces := #[5]
  cf := some (fileOf pool12 8 #[] #[{ accessFlags := 1, nameIndex := 5, descriptorIndex := 6, attributes := #[] }] 1057 2 #[13] #[{ accessFlags := 26, nameIndex := 15, descriptorIndex := 16, attributes := #[] }])
  fields := #[{ name := "serialVersionUID", type := .long, accessFlags := 26, slot := 0, constantValue := 0 }]
  methods := #[k12m0]
  instanceTypes := #[]
  staticTypes := #[.long]
  resolved := Array.replicate 37 none
  statics := none }

def pool13 : Array CpInfo := pool [(1, .class_ 2), (0, u "java/lang/Integer"), (16, u "digits"), (0, u "[C"), (46, u "<init>"), (17, u "DigitOnes"), (0, u "[B"), (2, u "DigitTens"), (10, .nameAndType 67 101), (0, u "()V"), (85, u "valueOf"), (0, u "(I)Ljava/lang/Integer;"), (0, .class_ 190), (0, u "java/lang/Integer$IntegerCache"), (0, .fieldref 189 192), (0, .nameAndType 193 194), (0, u "high"), (0, u "I"), (0, .fieldref 189 196), (0, .nameAndType 197 198), (0, u "cache"), (0, u "[Ljava/lang/Integer;"), (0, .methodref 1 200), (0, .nameAndType 67 201), (0, u "(I)V"), (0, .methodref 203 100), (0, .class_ 204), (0, u "java/lang/Number"), (0, .fieldref 1 206), (0, .nameAndType 207 194), (0, u "value"), (94, u "TYPE"), (0, u "Ljava/lang/Class;"), (0, .class_ 305), (0, u "java/lang/Comparable"), (0, .class_ 307), (0, u "java/lang/constant/Constable"), (0, .class_ 309), (0, u "java/lang/constant/ConstantDesc"), (0, u "MIN_VALUE"), (1, u "MAX_VALUE"), (3, u "SIZE"), (1, u "BYTES"), (1, u "serialVersionUID"), (0, u "J")] 131

def k13c0 : Code := { maxStack := 3, maxLocals := 1, code := jdk_33_method_22_code, exceptionTable := #[], attributes := #[] }
def k13m0 : Method := { name := "valueOf", desc := "(I)Ljava/lang/Integer;", sig := { parameters := [.int], returnType := some (.object "java/lang/Integer") }, accessFlags := 9, code := some k13c0 }
def k13c1 : Code := { maxStack := 2, maxLocals := 2, code := jdk_33_method_23_code, exceptionTable := #[], attributes := #[] }
def k13m1 : Method := { name := "<init>", desc := "(I)V", sig := { parameters := [.int], returnType := none }, accessFlags := 1, code := some k13c1 }
/-- java/lang/Integer -/
def k13 : Class := { plain "java/lang/Integer" (some 12) with
  accessFlags := 49
  interfaces := #[6, 8, 9]
  cf := some (fileOf pool13 1 #[.nestMembers #[189]] #[{ accessFlags := 9, nameIndex := 187, descriptorIndex := 188, attributes := #[] }, { accessFlags := 1, nameIndex := 67, descriptorIndex := 201, attributes := #[] }] 49 203 #[304, 306, 308] #[{ accessFlags := 25, nameIndex := 310, descriptorIndex := 194, attributes := #[] }, { accessFlags := 25, nameIndex := 312, descriptorIndex := 194, attributes := #[] }, { accessFlags := 25, nameIndex := 302, descriptorIndex := 303, attributes := #[] }, { accessFlags := 24, nameIndex := 19, descriptorIndex := 20, attributes := #[] }, { accessFlags := 24, nameIndex := 89, descriptorIndex := 86, attributes := #[] }, { accessFlags := 24, nameIndex := 85, descriptorIndex := 86, attributes := #[] }, { accessFlags := 18, nameIndex := 207, descriptorIndex := 194, attributes := #[] }, { accessFlags := 25, nameIndex := 316, descriptorIndex := 194, attributes := #[] }, { accessFlags := 25, nameIndex := 318, descriptorIndex := 194, attributes := #[] }, { accessFlags := 26, nameIndex := 320, descriptorIndex := 321, attributes := #[] }])
  fields := #[{ name := "MIN_VALUE", type := .int, accessFlags := 25, slot := 0, constantValue := 0 }, { name := "MAX_VALUE", type := .int, accessFlags := 25, slot := 1, constantValue := 0 }, { name := "TYPE", type := (.object "java/lang/Class"), accessFlags := 25, slot := 2, constantValue := 0 }, { name := "digits", type := (.array .char), accessFlags := 24, slot := 3, constantValue := 0 }, { name := "DigitTens", type := (.array .byte), accessFlags := 24, slot := 4, constantValue := 0 }, { name := "DigitOnes", type := (.array .byte), accessFlags := 24, slot := 5, constantValue := 0 }, { name := "value", type := .int, accessFlags := 18, slot := 0, constantValue := 0 }, { name := "SIZE", type := .int, accessFlags := 25, slot := 6, constantValue := 0 }, { name := "BYTES", type := .int, accessFlags := 25, slot := 7, constantValue := 0 }, { name := "serialVersionUID", type := .long, accessFlags := 26, slot := 8, constantValue := 0 }]
  methods := #[k13m0, k13m1]
  instanceTypes := #[.int]
  staticTypes := #[.int, .int, (.object "java/lang/Class"), (.array .char), (.array .byte), (.array .byte), .int, .int, .long]
  resolved := Array.replicate 453 none
  statics := none }

def pool14 : Array CpInfo := pool [(2, .class_ 4), (1, u "java/lang/Object"), (0, u "<init>"), (0, u "()V"), (0, .class_ 8), (0, u "java/lang/Integer"), (7, .class_ 18), (1, u "java/lang/Integer$IntegerCache"), (0, u "$assertionsDisabled"), (0, u "Z"), (26, u "high"), (0, u "I"), (8, u "archivedCache"), (0, u "[Ljava/lang/Integer;"), (12, u "cache"), (0, u "low")] 27

def k14m0 : Method := { name := "<init>", desc := "()V", sig := { parameters := [], returnType := none }, accessFlags := 2, code := none }
/-- java/lang/Integer$IntegerCache -/
def k14 : Class := { plain "java/lang/Integer$IntegerCache" (some 0) with
  accessFlags := 48
  interfaces := #[]
  cf := some (fileOf pool14 16 #[.nestHost 7] #[{ accessFlags := 2, nameIndex := 5, descriptorIndex := 6, attributes := #[] }] 48 2 #[] #[{ accessFlags := 24, nameIndex := 72, descriptorIndex := 48, attributes := #[] }, { accessFlags := 24, nameIndex := 47, descriptorIndex := 48, attributes := #[] }, { accessFlags := 24, nameIndex := 71, descriptorIndex := 58, attributes := #[] }, { accessFlags := 8, nameIndex := 57, descriptorIndex := 58, attributes := #[] }, { accessFlags := 4120, nameIndex := 19, descriptorIndex := 20, attributes := #[] }])
  fields := #[{ name := "low", type := .int, accessFlags := 24, slot := 0, constantValue := 0 }, { name := "high", type := .int, accessFlags := 24, slot := 1, constantValue := 0 }, { name := "cache", type := (.array (.object "java/lang/Integer")), accessFlags := 24, slot := 2, constantValue := 0 }, { name := "archivedCache", type := (.array (.object "java/lang/Integer")), accessFlags := 8, slot := 3, constantValue := 0 }, { name := "$assertionsDisabled", type := .boolean, accessFlags := 4120, slot := 4, constantValue := 0 }]
  methods := #[k14m0]
  instanceTypes := #[]
  staticTypes := #[.int, .int, (.array (.object "java/lang/Integer")), (.array (.object "java/lang/Integer")), .boolean]
  resolved := Array.replicate 100 none
  statics := some 2 }

def pool15 : Array CpInfo := pool [(2, .class_ 4), (1, u "java/lang/Object"), (0, u "<init>"), (0, u "()V"), (35, .class_ 44), (1, u "java/util/Objects"), (0, u "requireNonNull"), (48, u "(Ljava/lang/Object;Ljava/lang/String;)Ljava/lang/Object;")] 89

def k15m0 : Method := { name := "<init>", desc := "()V", sig := { parameters := [], returnType := none }, accessFlags := 2, code := none }
def k15c1 : Code := { maxStack := 3, maxLocals := 2, code := jdk_31_method_11_code, exceptionTable := #[], attributes := #[] }
def k15m1 : Method := { name := "requireNonNull", desc := "(Ljava/lang/Object;Ljava/lang/String;)Ljava/lang/Object;", sig := { parameters := [(.object "java/lang/Object"), (.object "java/lang/String")], returnType := some (.object "java/lang/Object") }, accessFlags := 9, code := some k15c1 }
/-- java/util/Objects -/
def k15 : Class := { plain "java/util/Objects" (some 0) with
  accessFlags := 49
  interfaces := #[]
  cf := some (fileOf pool15 42 #[] #[{ accessFlags := 2, nameIndex := 5, descriptorIndex := 6, attributes := #[] }, { accessFlags := 9, nameIndex := 45, descriptorIndex := 94, attributes := #[] }] 49 2 #[] #[])
  fields := #[]
  methods := #[k15m0, k15m1]
  instanceTypes := #[]
  staticTypes := #[]
  resolved := Array.replicate 184 none
  statics := none }

def pool16 : Array CpInfo := pool [(1, .methodref 2 3), (0, .class_ 4), (0, .nameAndType 5 6), (0, u "java/lang/Object"), (0, u "<init>"), (0, u "()V"), (1, .class_ 10), (1, u "java/util/AbstractMap"), (42, .class_ 54), (0, u "java/util/Map"), (9, u "keySet"), (0, u "Ljava/util/Set;"), (0, .class_ 67), (0, u "java/util/AbstractMap$1"), (5, u "values"), (0, u "Ljava/util/Collection;"), (0, .class_ 76), (0, u "java/util/AbstractMap$2"), (104, .class_ 182), (0, u "java/util/AbstractMap$ViewCollection"), (0, .class_ 184), (0, u "java/util/AbstractMap$SimpleImmutableEntry"), (0, .class_ 186), (0, u "java/util/AbstractMap$SimpleEntry"), (0, .class_ 188), (0, u "java/util/AbstractMap$2$1"), (0, .class_ 190), (0, u "java/util/AbstractMap$1$1")] 5

def k16c0 : Code := { maxStack := 1, maxLocals := 1, code := jdk_71_method_1_code, exceptionTable := #[], attributes := #[] }
def k16m0 : Method := { name := "<init>", desc := "()V", sig := { parameters := [], returnType := none }, accessFlags := 4, code := some k16c0 }
/-- java/util/AbstractMap -/
def k16 : Class := { plain "java/util/AbstractMap" (some 0) with
  accessFlags := 1057
  interfaces := #[3]
  cf := some (fileOf pool16 8 #[.nestMembers #[181, 183, 185, 75, 187, 66, 189]] #[{ accessFlags := 4, nameIndex := 5, descriptorIndex := 6, attributes := #[] }] 1057 2 #[53] #[{ accessFlags := 128, nameIndex := 64, descriptorIndex := 65, attributes := #[] }, { accessFlags := 128, nameIndex := 73, descriptorIndex := 74, attributes := #[] }])
  fields := #[{ name := "keySet", type := (.object "java/util/Set"), accessFlags := 128, slot := 0, constantValue := 0 }, { name := "values", type := (.object "java/util/Collection"), accessFlags := 128, slot := 1, constantValue := 0 }]
  methods := #[k16m0]
  instanceTypes := #[(.object "java/util/Set"), (.object "java/util/Collection")]
  staticTypes := #[]
  resolved := Array.replicate 196 none
  statics := none }

def pool17 : Array CpInfo := pool [(1, .class_ 2), (0, u "java/lang/Cloneable"), (0, .class_ 4), (0, u "java/lang/Object")] 2

/-- java/lang/Cloneable -/
def k17 : Class := { plain "java/lang/Cloneable" (some 0) with
  accessFlags := 1537
  interfaces := #[]
  cf := some (fileOf pool17 1 #[] #[] 1537 3 #[] #[])
  fields := #[]
  methods := #[]
  instanceTypes := #[]
  staticTypes := #[]
  resolved := Array.replicate 7 none
  statics := none }

def pool18 : Array CpInfo := pool [(1, .methodref 2 3), (0, .class_ 4), (0, .nameAndType 5 6), (0, u "java/lang/Object"), (0, u "hashCode"), (0, u "()I"), (26, u "(Ljava/lang/Object;)I"), (6, .class_ 41), (0, u "java/util/HashMap"), (1, .methodref 44 45), (0, .class_ 46), (0, .nameAndType 47 48), (0, u "java/util/AbstractMap"), (0, u "<init>"), (0, u "()V"), (32, .fieldref 40 82), (0, .nameAndType 83 84), (0, u "loadFactor"), (0, u "F"), (3, .fieldref 40 89), (0, .nameAndType 90 91), (0, u "threshold"), (0, u "I"), (0, .float 1061158912), (5, u "putMapEntries"), (0, u "(Ljava/util/Map;Z)V"), (0, .interfaceMethodref 101 102), (0, .class_ 103), (0, .nameAndType 104 6), (0, u "java/util/Map"), (0, u "size"), (0, .fieldref 40 106), (0, .nameAndType 107 108), (0, u "table"), (0, u "[Ljava/util/HashMap$Node;"), (8, .methodref 40 118), (0, .nameAndType 119 120), (0, u "resize"), (0, u "()[Ljava/util/HashMap$Node;"), (2, u "entrySet"), (25, .methodref 40 150), (0, .nameAndType 151 33), (0, u "hash"), (0, .methodref 40 153), (0, .nameAndType 154 155), (0, u "putVal"), (0, u "(ILjava/lang/Object;Ljava/lang/Object;ZZ)Ljava/lang/Object;"), (0, .fieldref 40 157), (0, .nameAndType 104 91), (5, .class_ 165), (1, u "java/util/HashMap$Node"), (14, .class_ 181), (0, u "java/util/HashMap$TreeNode"), (4, .methodref 40 187), (0, .nameAndType 188 189), (0, u "newNode"), (0, u "(ILjava/lang/Object;Ljava/lang/Object;Ljava/util/HashMap$Node;)Ljava/util/HashMap$Node;"), (12, .fieldref 40 203), (0, .nameAndType 204 91), (0, u "modCount"), (0, .methodref 40 206), (0, .nameAndType 207 208), (0, u "afterNodeInsertion"), (0, u "(Z)V"), (33, u "Ljava/util/Set;"), (0, .class_ 244), (0, u "java/util/HashMap$KeySet"), (18, .class_ 264), (0, u "java/util/HashMap$Values"), (3, .class_ 269), (0, u "java/util/HashMap$EntrySet"), (17, u "(Ljava/lang/Object;Ljava/lang/Object;)Ljava/lang/Object;"), (58, .class_ 348), (1, u "java/util/HashMap$UnsafeHolder"), (43, .class_ 393), (0, u "java/lang/Cloneable"), (0, .class_ 395), (0, u "java/io/Serializable"), (0, u "serialVersionUID"), (0, u "J"), (3, u "DEFAULT_INITIAL_CAPACITY"), (1, u "MAXIMUM_CAPACITY"), (0, u "DEFAULT_LOAD_FACTOR"), (0, u "TREEIFY_THRESHOLD"), (1, u "UNTREEIFY_THRESHOLD"), (1, u "MIN_TREEIFY_CAPACITY"), (60, u "put"), (125, .class_ 597), (0, u "java/util/HashMap$EntrySpliterator"), (0, .class_ 599), (0, u "java/util/HashMap$ValueSpliterator"), (0, .class_ 601), (0, u "java/util/HashMap$KeySpliterator"), (0, .class_ 603), (0, u "java/util/HashMap$HashMapSpliterator"), (0, .class_ 605), (0, u "java/util/HashMap$EntryIterator"), (0, .class_ 607), (0, u "java/util/HashMap$ValueIterator"), (0, .class_ 609), (0, u "java/util/HashMap$KeyIterator"), (0, .class_ 611), (0, u "java/util/HashMap$HashIterator")] 17

def k18c0 : Code := { maxStack := 3, maxLocals := 2, code := jdk_69_method_1_code, exceptionTable := #[], attributes := #[] }
def k18m0 : Method := { name := "hash", desc := "(Ljava/lang/Object;)I", sig := { parameters := [(.object "java/lang/Object")], returnType := some .int }, accessFlags := 24, code := some k18c0 }
def k18c1 : Code := { maxStack := 2, maxLocals := 1, code := jdk_69_method_7_code, exceptionTable := #[], attributes := #[] }
def k18m1 : Method := { name := "<init>", desc := "()V", sig := { parameters := [], returnType := none }, accessFlags := 1, code := some k18c1 }
def k18c2 : Code := { maxStack := 6, maxLocals := 8, code := jdk_69_method_9_code, exceptionTable := #[], attributes := #[] }
def k18m2 : Method := { name := "putMapEntries", desc := "(Ljava/util/Map;Z)V", sig := { parameters := [(.object "java/util/Map"), .boolean], returnType := none }, accessFlags := 16, code := some k18c2 }
def k18c3 : Code := { maxStack := 6, maxLocals := 3, code := jdk_69_method_15_code, exceptionTable := #[], attributes := #[] }
def k18m3 : Method := { name := "put", desc := "(Ljava/lang/Object;Ljava/lang/Object;)Ljava/lang/Object;", sig := { parameters := [(.object "java/lang/Object"), (.object "java/lang/Object")], returnType := some (.object "java/lang/Object") }, accessFlags := 1, code := some k18c3 }
def k18c4 : Code := { maxStack := 7, maxLocals := 13, code := jdk_69_method_16_code, exceptionTable := #[], attributes := #[] }
def k18m4 : Method := { name := "putVal", desc := "(ILjava/lang/Object;Ljava/lang/Object;ZZ)Ljava/lang/Object;", sig := { parameters := [.int, (.object "java/lang/Object"), (.object "java/lang/Object"), .boolean, .boolean], returnType := some (.object "java/lang/Object") }, accessFlags := 16, code := some k18c4 }
def k18c5 : Code := { maxStack := 5, maxLocals := 14, code := jdk_69_method_17_code, exceptionTable := #[], attributes := #[] }
def k18m5 : Method := { name := "resize", desc := "()[Ljava/util/HashMap$Node;", sig := { parameters := [], returnType := some (.array (.object "java/util/HashMap$Node")) }, accessFlags := 16, code := some k18c5 }
def k18c6 : Code := { maxStack := 6, maxLocals := 5, code := ⟨#[0x01, 0xb0]⟩, exceptionTable := #[], attributes := #[] }
def k18m6 : Method := { name := "newNode", desc := "(ILjava/lang/Object;Ljava/lang/Object;Ljava/util/HashMap$Node;)Ljava/util/HashMap$Node;", sig := { parameters := [.int, (.object "java/lang/Object"), (.object "java/lang/Object"), (.object "java/util/HashMap$Node")], returnType := some (.object "java/util/HashMap$Node") }, accessFlags := 0, code := some k18c6 }
def k18c7 : Code := { maxStack := 0, maxLocals := 2, code := object_method_1_code, exceptionTable := #[], attributes := #[] }
def k18m7 : Method := { name := "afterNodeInsertion", desc := "(Z)V", sig := { parameters := [.boolean], returnType := none }, accessFlags := 0, code := some k18c7 }
/-- java/util/HashMap -/
def k18 : Class := { plain "java/util/HashMap" (some 16) with
  accessFlags := 33
  interfaces := #[3, 17, 5]
  cf := some (fileOf pool18 40 #[.nestMembers #[180, 596, 598, 600, 602, 604, 606, 608, 610, 346, 268, 263, 243, 163]] #[{ accessFlags := 24, nameIndex := 151, descriptorIndex := 33, attributes := #[] }, { accessFlags := 1, nameIndex := 47, descriptorIndex := 48, attributes := #[] }, { accessFlags := 16, nameIndex := 98, descriptorIndex := 99, attributes := #[] }, { accessFlags := 1, nameIndex := 470, descriptorIndex := 287, attributes := #[] }, { accessFlags := 16, nameIndex := 154, descriptorIndex := 155, attributes := #[] }, { accessFlags := 16, nameIndex := 119, descriptorIndex := 120, attributes := #[] }, { accessFlags := 0, nameIndex := 188, descriptorIndex := 189, attributes := #[] }, { accessFlags := 0, nameIndex := 207, descriptorIndex := 208, attributes := #[] }] 33 44 #[101, 392, 394] #[{ accessFlags := 26, nameIndex := 396, descriptorIndex := 397, attributes := #[] }, { accessFlags := 24, nameIndex := 401, descriptorIndex := 91, attributes := #[] }, { accessFlags := 24, nameIndex := 403, descriptorIndex := 91, attributes := #[] }, { accessFlags := 24, nameIndex := 404, descriptorIndex := 84, attributes := #[] }, { accessFlags := 24, nameIndex := 405, descriptorIndex := 91, attributes := #[] }, { accessFlags := 24, nameIndex := 407, descriptorIndex := 91, attributes := #[] }, { accessFlags := 24, nameIndex := 409, descriptorIndex := 91, attributes := #[] }, { accessFlags := 128, nameIndex := 107, descriptorIndex := 108, attributes := #[] }, { accessFlags := 128, nameIndex := 123, descriptorIndex := 242, attributes := #[] }, { accessFlags := 128, nameIndex := 104, descriptorIndex := 91, attributes := #[] }, { accessFlags := 128, nameIndex := 204, descriptorIndex := 91, attributes := #[] }, { accessFlags := 0, nameIndex := 90, descriptorIndex := 91, attributes := #[] }, { accessFlags := 16, nameIndex := 83, descriptorIndex := 84, attributes := #[] }])
  fields := #[{ name := "serialVersionUID", type := .long, accessFlags := 26, slot := 0, constantValue := 0 }, { name := "DEFAULT_INITIAL_CAPACITY", type := .int, accessFlags := 24, slot := 1, constantValue := 0 }, { name := "MAXIMUM_CAPACITY", type := .int, accessFlags := 24, slot := 2, constantValue := 0 }, { name := "DEFAULT_LOAD_FACTOR", type := .float, accessFlags := 24, slot := 3, constantValue := 0 }, { name := "TREEIFY_THRESHOLD", type := .int, accessFlags := 24, slot := 4, constantValue := 0 }, { name := "UNTREEIFY_THRESHOLD", type := .int, accessFlags := 24, slot := 5, constantValue := 0 }, { name := "MIN_TREEIFY_CAPACITY", type := .int, accessFlags := 24, slot := 6, constantValue := 0 }, { name := "table", type := (.array (.object "java/util/HashMap$Node")), accessFlags := 128, slot := 2, constantValue := 0 }, { name := "entrySet", type := (.object "java/util/Set"), accessFlags := 128, slot := 3, constantValue := 0 }, { name := "size", type := .int, accessFlags := 128, slot := 4, constantValue := 0 }, { name := "modCount", type := .int, accessFlags := 128, slot := 5, constantValue := 0 }, { name := "threshold", type := .int, accessFlags := 0, slot := 6, constantValue := 0 }, { name := "loadFactor", type := .float, accessFlags := 16, slot := 7, constantValue := 0 }]
  methods := #[k18m0, k18m1, k18m2, k18m3, k18m4, k18m5, k18m6, k18m7]
  instanceTypes := #[(.object "java/util/Set"), (.object "java/util/Collection"), (.array (.object "java/util/HashMap$Node")), (.object "java/util/Set"), .int, .int, .int, .float]
  staticTypes := #[.long, .int, .int, .float, .int, .int, .int]
  resolved := Array.replicate 629 none
  statics := none }

def pool19 : Array CpInfo := pool [(2, .class_ 4), (1, u "java/util/SequencedMap"), (38, .class_ 44), (0, u "java/util/SequencedMap$1SeqKeySet"), (3, .class_ 49), (0, u "java/util/SequencedMap$1SeqValues"), (1, .class_ 52), (0, u "java/util/SequencedMap$1SeqEntrySet"), (1, .class_ 55), (0, u "java/lang/Object"), (0, .class_ 57), (0, u "java/util/Map")] 48

/-- java/util/SequencedMap -/
def k19 : Class := { plain "java/util/SequencedMap" (some 0) with
  accessFlags := 1537
  interfaces := #[3]
  cf := some (fileOf pool19 2 #[.nestMembers #[51, 48, 43]] #[] 1537 54 #[56] #[])
  fields := #[]
  methods := #[]
  instanceTypes := #[]
  staticTypes := #[]
  resolved := Array.replicate 106 none
  statics := none }

def pool20 : Array CpInfo := pool [(1, .fieldref 2 3), (0, .class_ 4), (0, .nameAndType 5 6), (0, u "java/util/LinkedHashMap"), (0, u "putMode"), (0, u "I"), (0, .fieldref 2 8), (0, .nameAndType 9 10), (0, u "head"), (0, u "Ljava/util/LinkedHashMap$Entry;"), (0, .fieldref 2 12), (0, .nameAndType 13 10), (0, u "tail"), (1, .class_ 17), (1, u "java/util/LinkedHashMap$Entry"), (5, .class_ 25), (1, u "java/util/HashMap"), (1, u "()V"), (0, .methodref 15 29), (0, .nameAndType 30 31), (0, u "<init>"), (0, u "(ILjava/lang/Object;Ljava/lang/Object;Ljava/util/HashMap$Node;)V"), (0, .methodref 2 33), (0, .nameAndType 34 35), (0, u "linkNodeAtEnd"), (0, u "(Ljava/util/LinkedHashMap$Entry;)V"), (17, .methodref 2 54), (0, .nameAndType 55 56), (0, u "removeEldestEntry"), (0, u "(Ljava/util/Map$Entry;)Z"), (7, .fieldref 2 65), (0, .nameAndType 66 67), (0, u "accessOrder"), (0, u "Z"), (19, .methodref 23 88), (0, .nameAndType 30 27), (0, .methodref 2 90), (0, .nameAndType 91 92), (0, u "putMapEntries"), (0, u "(Ljava/util/Map;Z)V"), (28, .class_ 122), (0, u "java/util/LinkedHashMap$LinkedKeySet"), (20, .class_ 144), (0, u "java/util/LinkedHashMap$LinkedValues"), (9, .class_ 155), (0, u "java/util/LinkedHashMap$LinkedEntrySet"), (44, .class_ 201), (0, u "java/util/LinkedHashMap$ReversedLinkedHashMapView"), (3, .class_ 206), (0, u "java/util/SequencedMap"), (0, u "serialVersionUID"), (0, u "J"), (5, u "PUT_NORM"), (1, u "PUT_FIRST"), (1, u "PUT_LAST"), (18, u "newNode"), (0, u "(ILjava/lang/Object;Ljava/lang/Object;Ljava/util/HashMap$Node;)Ljava/util/HashMap$Node;"), (22, u "afterNodeInsertion"), (0, u "(Z)V"), (18, u "(Ljava/util/Map;)V"), (80, .class_ 363), (0, u "java/util/LinkedHashMap$LinkedEntryIterator"), (0, .class_ 365), (0, u "java/util/LinkedHashMap$LinkedValueIterator"), (0, .class_ 367), (0, u "java/util/LinkedHashMap$LinkedKeyIterator"), (0, .class_ 369), (0, u "java/util/LinkedHashMap$LinkedHashIterator")] 16

def k20c0 : Code := { maxStack := 2, maxLocals := 3, code := jdk_94_method_1_code, exceptionTable := #[], attributes := #[] }
def k20m0 : Method := { name := "linkNodeAtEnd", desc := "(Ljava/util/LinkedHashMap$Entry;)V", sig := { parameters := [(.object "java/util/LinkedHashMap$Entry")], returnType := none }, accessFlags := 2, code := some k20c0 }
def k20c1 : Code := { maxStack := 6, maxLocals := 6, code := jdk_94_method_4_code, exceptionTable := #[], attributes := #[] }
def k20m1 : Method := { name := "newNode", desc := "(ILjava/lang/Object;Ljava/lang/Object;Ljava/util/HashMap$Node;)Ljava/util/HashMap$Node;", sig := { parameters := [.int, (.object "java/lang/Object"), (.object "java/lang/Object"), (.object "java/util/HashMap$Node")], returnType := some (.object "java/util/HashMap$Node") }, accessFlags := 0, code := some k20c1 }
def k20c2 : Code := { maxStack := 6, maxLocals := 4, code := jdk_94_method_9_code, exceptionTable := #[], attributes := #[] }
def k20m2 : Method := { name := "afterNodeInsertion", desc := "(Z)V", sig := { parameters := [.boolean], returnType := none }, accessFlags := 0, code := some k20c2 }
def k20m3 : Method := { name := "<init>", desc := "()V", sig := { parameters := [], returnType := none }, accessFlags := 1, code := none }
def k20c4 : Code := { maxStack := 3, maxLocals := 2, code := jdk_94_method_17_code, exceptionTable := #[], attributes := #[] }
def k20m4 : Method := { name := "<init>", desc := "(Ljava/util/Map;)V", sig := { parameters := [(.object "java/util/Map")], returnType := none }, accessFlags := 1, code := some k20c4 }
def k20c5 : Code := { maxStack := 1, maxLocals := 2, code := jdk_94_method_23_code, exceptionTable := #[], attributes := #[] }
def k20m5 : Method := { name := "removeEldestEntry", desc := "(Ljava/util/Map$Entry;)Z", sig := { parameters := [(.object "java/util/Map$Entry")], returnType := some .boolean }, accessFlags := 4, code := some k20c5 }
/-- java/util/LinkedHashMap -/
def k20 : Class := { plain "java/util/LinkedHashMap" (some 18) with
  accessFlags := 33
  interfaces := #[19]
  cf := some (fileOf pool20 2 #[.nestMembers #[200, 362, 364, 366, 368, 154, 143, 121, 15]] #[{ accessFlags := 2, nameIndex := 34, descriptorIndex := 35, attributes := #[] }, { accessFlags := 0, nameIndex := 237, descriptorIndex := 238, attributes := #[] }, { accessFlags := 0, nameIndex := 261, descriptorIndex := 262, attributes := #[] }, { accessFlags := 1, nameIndex := 30, descriptorIndex := 27, attributes := #[] }, { accessFlags := 1, nameIndex := 30, descriptorIndex := 281, attributes := #[] }, { accessFlags := 4, nameIndex := 55, descriptorIndex := 56, attributes := #[] }] 33 23 #[205] #[{ accessFlags := 26, nameIndex := 207, descriptorIndex := 208, attributes := #[] }, { accessFlags := 128, nameIndex := 9, descriptorIndex := 10, attributes := #[] }, { accessFlags := 128, nameIndex := 13, descriptorIndex := 10, attributes := #[] }, { accessFlags := 16, nameIndex := 66, descriptorIndex := 67, attributes := #[] }, { accessFlags := 24, nameIndex := 214, descriptorIndex := 6, attributes := #[] }, { accessFlags := 24, nameIndex := 216, descriptorIndex := 6, attributes := #[] }, { accessFlags := 24, nameIndex := 218, descriptorIndex := 6, attributes := #[] }, { accessFlags := 128, nameIndex := 5, descriptorIndex := 6, attributes := #[] }])
  fields := #[{ name := "serialVersionUID", type := .long, accessFlags := 26, slot := 0, constantValue := 0 }, { name := "head", type := (.object "java/util/LinkedHashMap$Entry"), accessFlags := 128, slot := 8, constantValue := 0 }, { name := "tail", type := (.object "java/util/LinkedHashMap$Entry"), accessFlags := 128, slot := 9, constantValue := 0 }, { name := "accessOrder", type := .boolean, accessFlags := 16, slot := 10, constantValue := 0 }, { name := "PUT_NORM", type := .int, accessFlags := 24, slot := 1, constantValue := 0 }, { name := "PUT_FIRST", type := .int, accessFlags := 24, slot := 2, constantValue := 0 }, { name := "PUT_LAST", type := .int, accessFlags := 24, slot := 3, constantValue := 0 }, { name := "putMode", type := .int, accessFlags := 128, slot := 11, constantValue := 0 }]
  methods := #[k20m0, k20m1, k20m2, k20m3, k20m4, k20m5]
  instanceTypes := #[(.object "java/util/Set"), (.object "java/util/Collection"), (.array (.object "java/util/HashMap$Node")), (.object "java/util/Set"), .int, .int, .int, .float, (.object "java/util/LinkedHashMap$Entry"), (.object "java/util/LinkedHashMap$Entry"), .boolean, .int]
  staticTypes := #[.long, .int, .int, .int]
  resolved := Array.replicate 386 none
  mirror := some 4
  statics := none }

def pool21 : Array CpInfo := pool [(2, .class_ 4), (1, u "java/util/AbstractMap"), (0, u "<init>"), (0, u "()V"), (1, .class_ 10), (1, u "java/util/ImmutableCollections"), (3, .class_ 16), (1, u "java/util/ImmutableCollections$AbstractImmutableMap"), (2, .class_ 20), (0, u "java/io/Serializable")] 66

def k21m0 : Method := { name := "<init>", desc := "()V", sig := { parameters := [], returnType := none }, accessFlags := 0, code := none }
/-- java/util/ImmutableCollections$AbstractImmutableMap -/
def k21 : Class := { plain "java/util/ImmutableCollections$AbstractImmutableMap" (some 16) with
  accessFlags := 1056
  interfaces := #[5]
  cf := some (fileOf pool21 14 #[.nestHost 8] #[{ accessFlags := 0, nameIndex := 5, descriptorIndex := 6, attributes := #[] }] 1056 2 #[19] #[])
  fields := #[]
  methods := #[k21m0]
  instanceTypes := #[(.object "java/util/Set"), (.object "java/util/Collection")]
  staticTypes := #[]
  resolved := Array.replicate 87 none
  statics := none }

def pool22 : Array CpInfo := pool [(1, .class_ 2), (0, u "java/util/ImmutableCollections"), (1, .class_ 6), (1, u "java/util/ImmutableCollections$AbstractImmutableMap"), (9, .fieldref 17 18), (0, .class_ 19), (0, .nameAndType 20 21), (0, u "java/util/ImmutableCollections$MapN"), (0, u "size"), (0, u "I"), (4, u "table"), (0, u "[Ljava/lang/Object;"), (36, u "()I")] 84

def k22c0 : Code := { maxStack := 1, maxLocals := 1, code := jdk_2605_method_6_code, exceptionTable := #[], attributes := #[] }
def k22m0 : Method := { name := "size", desc := "()I", sig := { parameters := [], returnType := some .int }, accessFlags := 1, code := some k22c0 }
/-- java/util/ImmutableCollections$MapN -/
def k22 : Class := { plain "java/util/ImmutableCollections$MapN" (some 21) with
  accessFlags := 48
  interfaces := #[]
  cf := some (fileOf pool22 17 #[.nestHost 1] #[{ accessFlags := 1, nameIndex := 20, descriptorIndex := 64, attributes := #[] }] 48 4 #[] #[{ accessFlags := 16, nameIndex := 26, descriptorIndex := 27, attributes := #[] }, { accessFlags := 16, nameIndex := 20, descriptorIndex := 21, attributes := #[] }])
  fields := #[{ name := "table", type := (.array (.object "java/lang/Object")), accessFlags := 16, slot := 2, constantValue := 0 }, { name := "size", type := .int, accessFlags := 16, slot := 3, constantValue := 0 }]
  methods := #[k22m0]
  instanceTypes := #[(.object "java/util/Set"), (.object "java/util/Collection"), (.array (.object "java/lang/Object")), .int]
  staticTypes := #[]
  resolved := Array.replicate 149 none
  statics := none }

def pool23 : Array CpInfo := pool [(23, .class_ 25), (1, u "java/util/Map$Entry"), (6, .class_ 34), (1, u "java/util/Map"), (34, .class_ 70), (0, u "java/lang/Object")] 107

/-- java/util/Map$Entry -/
def k23 : Class := { plain "java/util/Map$Entry" (some 0) with
  accessFlags := 1537
  interfaces := #[]
  cf := some (fileOf pool23 23 #[.nestHost 32] #[] 1537 69 #[] #[])
  fields := #[]
  methods := #[]
  instanceTypes := #[]
  staticTypes := #[]
  resolved := Array.replicate 178 none
  statics := none }

def pool24 : Array CpInfo := pool [(1, .methodref 2 3), (0, .class_ 4), (0, .nameAndType 5 6), (0, u "java/lang/Object"), (0, u "<init>"), (0, u "()V"), (0, .fieldref 8 9), (0, .class_ 10), (0, .nameAndType 11 12), (0, u "java/util/HashMap$Node"), (0, u "hash"), (0, u "I"), (0, .fieldref 8 14), (0, .nameAndType 15 16), (0, u "key"), (0, u "Ljava/lang/Object;"), (0, .fieldref 8 18), (0, .nameAndType 19 16), (0, u "value"), (0, .fieldref 8 21), (0, .nameAndType 22 23), (0, u "next"), (0, u "Ljava/util/HashMap$Node;"), (22, .class_ 47), (0, u "java/util/Map$Entry"), (15, u "(ILjava/lang/Object;Ljava/lang/Object;Ljava/util/HashMap$Node;)V"), (24, .class_ 89), (0, u "java/util/HashMap")] 5

def k24c0 : Code := { maxStack := 2, maxLocals := 5, code := jdk_70_method_1_code, exceptionTable := #[], attributes := #[] }
def k24m0 : Method := { name := "<init>", desc := "(ILjava/lang/Object;Ljava/lang/Object;Ljava/util/HashMap$Node;)V", sig := { parameters := [.int, (.object "java/lang/Object"), (.object "java/lang/Object"), (.object "java/util/HashMap$Node")], returnType := none }, accessFlags := 0, code := some k24c0 }
/-- java/util/HashMap$Node -/
def k24 : Class := { plain "java/util/HashMap$Node" (some 0) with
  accessFlags := 32
  interfaces := #[23]
  cf := some (fileOf pool24 8 #[.nestHost 88] #[{ accessFlags := 0, nameIndex := 5, descriptorIndex := 63, attributes := #[] }] 32 2 #[46] #[{ accessFlags := 16, nameIndex := 11, descriptorIndex := 12, attributes := #[] }, { accessFlags := 16, nameIndex := 15, descriptorIndex := 16, attributes := #[] }, { accessFlags := 0, nameIndex := 19, descriptorIndex := 16, attributes := #[] }, { accessFlags := 0, nameIndex := 22, descriptorIndex := 23, attributes := #[] }])
  fields := #[{ name := "hash", type := .int, accessFlags := 16, slot := 0, constantValue := 0 }, { name := "key", type := (.object "java/lang/Object"), accessFlags := 16, slot := 1, constantValue := 0 }, { name := "value", type := (.object "java/lang/Object"), accessFlags := 0, slot := 2, constantValue := 0 }, { name := "next", type := (.object "java/util/HashMap$Node"), accessFlags := 0, slot := 3, constantValue := 0 }]
  methods := #[k24m0]
  instanceTypes := #[.int, (.object "java/lang/Object"), (.object "java/lang/Object"), (.object "java/util/HashMap$Node")]
  staticTypes := #[]
  resolved := Array.replicate 95 none
  statics := none }

def pool25 : Array CpInfo := pool [(1, .methodref 2 3), (0, .class_ 4), (0, .nameAndType 5 6), (0, u "java/util/HashMap$Node"), (0, u "<init>"), (0, u "(ILjava/lang/Object;Ljava/lang/Object;Ljava/util/HashMap$Node;)V"), (0, .class_ 8), (0, u "java/util/LinkedHashMap$Entry"), (0, u "before"), (0, u "Ljava/util/LinkedHashMap$Entry;"), (2, u "after"), (20, .class_ 35), (0, u "java/util/LinkedHashMap")] 5

def k25c0 : Code := { maxStack := 5, maxLocals := 5, code := jdk_83_method_1_code, exceptionTable := #[], attributes := #[] }
def k25m0 : Method := { name := "<init>", desc := "(ILjava/lang/Object;Ljava/lang/Object;Ljava/util/HashMap$Node;)V", sig := { parameters := [.int, (.object "java/lang/Object"), (.object "java/lang/Object"), (.object "java/util/HashMap$Node")], returnType := none }, accessFlags := 0, code := some k25c0 }
/-- java/util/LinkedHashMap$Entry -/
def k25 : Class := { plain "java/util/LinkedHashMap$Entry" (some 24) with
  accessFlags := 32
  interfaces := #[]
  cf := some (fileOf pool25 7 #[.nestHost 34] #[{ accessFlags := 0, nameIndex := 5, descriptorIndex := 6, attributes := #[] }] 32 2 #[] #[{ accessFlags := 0, nameIndex := 9, descriptorIndex := 10, attributes := #[] }, { accessFlags := 0, nameIndex := 13, descriptorIndex := 10, attributes := #[] }])
  fields := #[{ name := "before", type := (.object "java/util/LinkedHashMap$Entry"), accessFlags := 0, slot := 4, constantValue := 0 }, { name := "after", type := (.object "java/util/LinkedHashMap$Entry"), accessFlags := 0, slot := 5, constantValue := 0 }]
  methods := #[k25m0]
  instanceTypes := #[.int, (.object "java/lang/Object"), (.object "java/lang/Object"), (.object "java/util/HashMap$Node"), (.object "java/util/LinkedHashMap$Entry"), (.object "java/util/LinkedHashMap$Entry")]
  staticTypes := #[]
  resolved := Array.replicate 41 none
  statics := none }

def pool26 : Array CpInfo := pool [(2, .class_ 4), (1, u "java/lang/Object"), (0, u "<init>"), (0, u "()V"), (12, .class_ 20), (0, u "java/util/Collections"), (63, u "r"), (0, u "Ljava/util/Random;"), (77, .nameAndType 164 165), (0, u "getClass"), (0, u "()Ljava/lang/Class;"), (0, .class_ 167), (0, u "java/util/Collections$UnmodifiableCollection"), (6, .class_ 175), (0, u "java/util/Collections$UnmodifiableSequencedCollection"), (6, .class_ 183), (0, u "java/util/Collections$UnmodifiableSet"), (6, .class_ 191), (0, u "java/util/Collections$UnmodifiableSequencedSet"), (6, .class_ 199), (0, u "java/util/Collections$UnmodifiableSortedSet"), (6, .class_ 207), (0, u "java/util/Collections$UnmodifiableNavigableSet"), (4, .class_ 213), (0, u "java/util/Collections$UnmodifiableList"), (1, .class_ 216), (0, u "java/util/Collections$UnmodifiableRandomAccessList"), (3, .interfaceMethodref 221 163), (0, .class_ 222), (0, u "java/util/Map"), (0, .class_ 224), (0, u "java/util/Collections$UnmodifiableMap"), (0, .methodref 223 226), (0, .nameAndType 5 227), (0, u "(Ljava/util/Map;)V"), (3, .class_ 232), (0, u "java/util/Collections$UnmodifiableSequencedMap"), (4, .class_ 238), (0, u "java/util/Collections$UnmodifiableSortedMap"), (6, .class_ 246), (0, u "java/util/Collections$UnmodifiableNavigableMap"), (3, .class_ 251), (0, u "java/util/Collections$SynchronizedCollection"), (4, .class_ 257), (0, u "java/util/Collections$SynchronizedSet"), (4, .class_ 263), (0, u "java/util/Collections$SynchronizedSortedSet"), (1, .class_ 266), (0, u "java/util/Collections$SynchronizedNavigableSet"), (1, .class_ 269), (0, u "java/util/Collections$SynchronizedRandomAccessList"), (1, .class_ 272), (0, u "java/util/Collections$SynchronizedList"), (5, .class_ 279), (0, u "java/util/Collections$SynchronizedMap"), (1, .class_ 282), (0, u "java/util/Collections$SynchronizedSortedMap"), (1, .class_ 285), (0, u "java/util/Collections$SynchronizedNavigableMap"), (1, .class_ 288), (0, u "java/util/Collections$CheckedCollection"), (11, .class_ 301), (0, u "java/util/Collections$CheckedQueue"), (3, .class_ 306), (0, u "java/util/Collections$CheckedSet"), (3, .class_ 311), (0, u "java/util/Collections$CheckedSortedSet"), (3, .class_ 316), (0, u "java/util/Collections$CheckedNavigableSet"), (3, .class_ 321), (0, u "java/util/Collections$CheckedRandomAccessList"), (3, .class_ 326), (0, u "java/util/Collections$CheckedList"), (1, .class_ 329), (0, u "java/util/Collections$CheckedMap"), (3, .class_ 334), (0, u "java/util/Collections$CheckedSortedMap"), (3, .class_ 339), (0, u "java/util/Collections$CheckedNavigableMap"), (4, .class_ 346), (1, u "java/util/Collections$EmptyIterator"), (3, .class_ 352), (1, u "java/util/Collections$EmptyListIterator"), (2, .class_ 357), (1, u "java/util/Collections$EmptyEnumeration"), (4, u "EMPTY_SET"), (0, u "Ljava/util/Set;"), (6, u "EMPTY_LIST"), (0, u "Ljava/util/List;"), (2, u "EMPTY_MAP"), (0, u "Ljava/util/Map;"), (4, .class_ 381), (0, u "java/util/Collections$SingletonSet"), (2, .class_ 385), (0, u "java/util/Collections$1"), (1, .class_ 388), (0, u "java/util/Collections$2"), (1, .class_ 391), (0, u "java/util/Collections$SingletonList"), (1, .class_ 394), (0, u "java/util/Collections$SingletonMap"), (22, .class_ 418), (0, u "java/util/Collections$CopiesList"), (4, .class_ 425), (1, u "java/util/Collections$ReverseComparator"), (8, .class_ 435), (0, u "java/util/Collections$ReverseComparator2"), (6, .class_ 443), (0, u "java/util/Collections$3"), (25, .class_ 470), (0, u "java/util/Collections$SetFromMap"), (2, .class_ 474), (0, u "java/util/Collections$SequencedSetFromMap"), (3, .class_ 479), (0, u "java/util/Collections$AsLIFOQueue"), (11, .class_ 492), (0, u "java/util/Collections$EmptySet"), (1, .class_ 495), (0, u "java/util/Collections$EmptyList"), (1, .class_ 498), (0, u "java/util/Collections$EmptyMap"), (1, u "BINARYSEARCH_THRESHOLD"), (0, u "I"), (2, u "REVERSE_THRESHOLD"), (1, u "SHUFFLE_THRESHOLD"), (1, u "FILL_THRESHOLD"), (1, u "ROTATE_THRESHOLD"), (1, u "COPY_THRESHOLD"), (1, u "REPLACEALL_THRESHOLD"), (1, u "INDEXOFSUBLIST_THRESHOLD"), (132, u "unmodifiableMap"), (0, u "(Ljava/util/Map;)Ljava/util/Map;"), (199, .class_ 851), (0, u "java/util/Collections$CheckedMap$CheckedEntrySet"), (0, .class_ 853), (0, u "java/util/Collections$CheckedMap$CheckedEntrySet$CheckedEntry"), (0, .class_ 855), (0, u "java/util/Collections$CheckedMap$CheckedEntrySet$1"), (0, .class_ 857), (0, u "java/util/Collections$CheckedList$1"), (0, .class_ 859), (0, u "java/util/Collections$CheckedCollection$1"), (0, .class_ 861), (0, u "java/util/Collections$UnmodifiableNavigableMap$EmptyNavigableMap"), (0, .class_ 863), (0, u "java/util/Collections$UnmodifiableMap$UnmodifiableEntrySet"), (0, .class_ 865), (0, u "java/util/Collections$UnmodifiableMap$UnmodifiableEntrySet$UnmodifiableEntry"), (0, .class_ 867), (0, u "java/util/Collections$UnmodifiableMap$UnmodifiableEntrySet$UnmodifiableEntrySetSpliterator"), (0, .class_ 869), (0, u "java/util/Collections$UnmodifiableMap$UnmodifiableEntrySet$1"), (0, .class_ 871), (0, u "java/util/Collections$UnmodifiableList$1"), (0, .class_ 873), (0, u "java/util/Collections$UnmodifiableNavigableSet$EmptyNavigableSet"), (0, .class_ 875), (0, u "java/util/Collections$UnmodifiableCollection$1")] 57

def k26m0 : Method := { name := "<init>", desc := "()V", sig := { parameters := [], returnType := none }, accessFlags := 2, code := none }
def k26c1 : Code := { maxStack := 3, maxLocals := 1, code := jdk_79_method_36_code, exceptionTable := #[], attributes := #[] }
def k26m1 : Method := { name := "unmodifiableMap", desc := "(Ljava/util/Map;)Ljava/util/Map;", sig := { parameters := [(.object "java/util/Map")], returnType := some (.object "java/util/Map") }, accessFlags := 9, code := some k26c1 }
/-- java/util/Collections -/
def k26 : Class := { plain "java/util/Collections" (some 0) with
  accessFlags := 33
  interfaces := #[]
  cf := some (fileOf pool26 19 #[.nestMembers #[478, 473, 469, 434, 423, 417, 393, 390, 380, 497, 494, 491, 355, 350, 344, 338, 333, 328, 850, 852, 854, 320, 325, 856, 315, 310, 305, 300, 287, 858, 284, 281, 278, 268, 271, 265, 262, 256, 250, 245, 860, 237, 231, 223, 862, 864, 866, 868, 215, 212, 870, 206, 872, 198, 190, 182, 174, 166, 874, 442, 387, 384]] #[{ accessFlags := 2, nameIndex := 5, descriptorIndex := 6, attributes := #[] }, { accessFlags := 9, nameIndex := 649, descriptorIndex := 650, attributes := #[] }] 33 2 #[] #[{ accessFlags := 26, nameIndex := 500, descriptorIndex := 501, attributes := #[] }, { accessFlags := 26, nameIndex := 504, descriptorIndex := 501, attributes := #[] }, { accessFlags := 26, nameIndex := 506, descriptorIndex := 501, attributes := #[] }, { accessFlags := 26, nameIndex := 508, descriptorIndex := 501, attributes := #[] }, { accessFlags := 26, nameIndex := 510, descriptorIndex := 501, attributes := #[] }, { accessFlags := 26, nameIndex := 512, descriptorIndex := 501, attributes := #[] }, { accessFlags := 26, nameIndex := 514, descriptorIndex := 501, attributes := #[] }, { accessFlags := 26, nameIndex := 516, descriptorIndex := 501, attributes := #[] }, { accessFlags := 10, nameIndex := 84, descriptorIndex := 85, attributes := #[] }, { accessFlags := 25, nameIndex := 362, descriptorIndex := 363, attributes := #[] }, { accessFlags := 25, nameIndex := 370, descriptorIndex := 371, attributes := #[] }, { accessFlags := 25, nameIndex := 374, descriptorIndex := 375, attributes := #[] }])
  fields := #[{ name := "BINARYSEARCH_THRESHOLD", type := .int, accessFlags := 26, slot := 0, constantValue := 0 }, { name := "REVERSE_THRESHOLD", type := .int, accessFlags := 26, slot := 1, constantValue := 0 }, { name := "SHUFFLE_THRESHOLD", type := .int, accessFlags := 26, slot := 2, constantValue := 0 }, { name := "FILL_THRESHOLD", type := .int, accessFlags := 26, slot := 3, constantValue := 0 }, { name := "ROTATE_THRESHOLD", type := .int, accessFlags := 26, slot := 4, constantValue := 0 }, { name := "COPY_THRESHOLD", type := .int, accessFlags := 26, slot := 5, constantValue := 0 }, { name := "REPLACEALL_THRESHOLD", type := .int, accessFlags := 26, slot := 6, constantValue := 0 }, { name := "INDEXOFSUBLIST_THRESHOLD", type := .int, accessFlags := 26, slot := 7, constantValue := 0 }, { name := "r", type := (.object "java/util/Random"), accessFlags := 10, slot := 8, constantValue := 0 }, { name := "EMPTY_SET", type := (.object "java/util/Set"), accessFlags := 25, slot := 9, constantValue := 0 }, { name := "EMPTY_LIST", type := (.object "java/util/List"), accessFlags := 25, slot := 10, constantValue := 0 }, { name := "EMPTY_MAP", type := (.object "java/util/Map"), accessFlags := 25, slot := 11, constantValue := 0 }]
  methods := #[k26m0, k26m1]
  instanceTypes := #[]
  staticTypes := #[.int, .int, .int, .int, .int, .int, .int, .int, (.object "java/util/Random"), (.object "java/util/Set"), (.object "java/util/List"), (.object "java/util/Map")]
  resolved := Array.replicate 933 none
  statics := none }

def pool27 : Array CpInfo := pool [(1, .methodref 2 3), (0, .class_ 4), (0, .nameAndType 5 6), (0, u "java/lang/Object"), (0, u "<init>"), (0, u "()V"), (3, .fieldref 11 12), (0, .class_ 13), (0, .nameAndType 14 15), (0, u "java/util/Collections$UnmodifiableMap"), (0, u "m"), (0, u "Ljava/util/Map;"), (1, .class_ 19), (1, u "java/util/Map"), (22, u "keySet"), (0, u "Ljava/util/Set;"), (4, .class_ 50), (1, u "java/util/Collections"), (4, u "entrySet"), (9, u "values"), (0, u "Ljava/util/Collection;"), (25, .class_ 93), (0, u "java/io/Serializable"), (0, u "serialVersionUID"), (0, u "J"), (8, u "(Ljava/util/Map;)V")] 70

def k27c0 : Code := { maxStack := 2, maxLocals := 2, code := jdk_2500_method_1_code, exceptionTable := #[], attributes := #[] }
def k27m0 : Method := { name := "<init>", desc := "(Ljava/util/Map;)V", sig := { parameters := [(.object "java/util/Map")], returnType := none }, accessFlags := 0, code := some k27c0 }
/-- java/util/Collections$UnmodifiableMap -/
def k27 : Class := { plain "java/util/Collections$UnmodifiableMap" (some 0) with
  accessFlags := 32
  interfaces := #[3, 5]
  cf := some (fileOf pool27 11 #[.nestHost 48] #[{ accessFlags := 0, nameIndex := 5, descriptorIndex := 104, attributes := #[] }] 32 2 #[17, 92] #[{ accessFlags := 26, nameIndex := 94, descriptorIndex := 95, attributes := #[] }, { accessFlags := 16, nameIndex := 14, descriptorIndex := 15, attributes := #[] }, { accessFlags := 130, nameIndex := 42, descriptorIndex := 43, attributes := #[] }, { accessFlags := 130, nameIndex := 55, descriptorIndex := 43, attributes := #[] }, { accessFlags := 130, nameIndex := 65, descriptorIndex := 66, attributes := #[] }])
  fields := #[{ name := "serialVersionUID", type := .long, accessFlags := 26, slot := 0, constantValue := 0 }, { name := "m", type := (.object "java/util/Map"), accessFlags := 16, slot := 0, constantValue := 0 }, { name := "keySet", type := (.object "java/util/Set"), accessFlags := 130, slot := 1, constantValue := 0 }, { name := "entrySet", type := (.object "java/util/Set"), accessFlags := 130, slot := 2, constantValue := 0 }, { name := "values", type := (.object "java/util/Collection"), accessFlags := 130, slot := 3, constantValue := 0 }]
  methods := #[k27m0]
  instanceTypes := #[(.object "java/util/Map"), (.object "java/util/Set"), (.object "java/util/Set"), (.object "java/util/Collection")]
  staticTypes := #[.long]
  resolved := Array.replicate 175 none
  mirror := some 5
  statics := none }

def pool28 : Array CpInfo := pool [(2, .class_ 4), (1, u "java/lang/Object"), (0, u "<init>"), (0, u "()V"), (17, .class_ 26), (1, u "jdk/internal/util/Preconditions"), (28, .class_ 56), (0, u "jdk/internal/util/Preconditions$4"), (57, .class_ 115), (0, u "jdk/internal/util/Preconditions$1"), (7, u "SIOOBE_FORMATTER"), (0, u "Ljava/util/function/BiFunction;"), (0, .class_ 126), (0, u "jdk/internal/util/Preconditions$2"), (3, u "AIOOBE_FORMATTER"), (0, .class_ 132), (0, u "jdk/internal/util/Preconditions$3"), (3, u "IOOBE_FORMATTER")] 57

def k28m0 : Method := { name := "<init>", desc := "()V", sig := { parameters := [], returnType := none }, accessFlags := 1, code := none }
/-- jdk/internal/util/Preconditions -/
def k28 : Class := { plain "jdk/internal/util/Preconditions" (some 0) with
  accessFlags := 33
  interfaces := #[]
  cf := some (fileOf pool28 24 #[.nestMembers #[55, 131, 125, 114]] #[{ accessFlags := 1, nameIndex := 5, descriptorIndex := 6, attributes := #[] }] 33 2 #[] #[{ accessFlags := 25, nameIndex := 123, descriptorIndex := 124, attributes := #[] }, { accessFlags := 25, nameIndex := 130, descriptorIndex := 124, attributes := #[] }, { accessFlags := 25, nameIndex := 136, descriptorIndex := 124, attributes := #[] }])
  fields := #[{ name := "SIOOBE_FORMATTER", type := (.object "java/util/function/BiFunction"), accessFlags := 25, slot := 0, constantValue := 0 }, { name := "AIOOBE_FORMATTER", type := (.object "java/util/function/BiFunction"), accessFlags := 25, slot := 1, constantValue := 0 }, { name := "IOOBE_FORMATTER", type := (.object "java/util/function/BiFunction"), accessFlags := 25, slot := 2, constantValue := 0 }]
  methods := #[k28m0]
  instanceTypes := #[]
  staticTypes := #[(.object "java/util/function/BiFunction"), (.object "java/util/function/BiFunction"), (.object "java/util/function/BiFunction")]
  resolved := Array.replicate 194 none
  statics := some 3 }

def pool29 : Array CpInfo := pool [(9, u "<init>"), (6, .class_ 18), (1, u "java/lang/Object"), (0, u "()V"), (1, .class_ 23), (1, u "jdk/internal/util/ArraysSupport"), (0, u "LOG2_ARRAY_LONG_INDEX_SCALE"), (0, u "I"), (2, u "U"), (0, u "Ljdk/internal/misc/Unsafe;"), (8, u "BIG_ENDIAN"), (0, u "Z"), (8, u "LOG2_BYTE_BIT_SIZE"), (4, u "LOG2_ARRAY_INT_INDEX_SCALE"), (54, u "JLA"), (0, u "Ljdk/internal/access/JavaLangAccess;"), (11, u "LOG2_ARRAY_BOOLEAN_INDEX_SCALE"), (9, u "LOG2_ARRAY_BYTE_INDEX_SCALE"), (5, u "LOG2_ARRAY_CHAR_INDEX_SCALE"), (5, u "LOG2_ARRAY_SHORT_INDEX_SCALE"), (18, u "LOG2_ARRAY_FLOAT_INDEX_SCALE"), (24, u "LOG2_ARRAY_DOUBLE_INDEX_SCALE"), (89, u "T_BOOLEAN"), (2, u "T_CHAR"), (1, u "T_FLOAT"), (1, u "T_DOUBLE"), (1, u "T_BYTE"), (1, u "T_SHORT"), (1, u "T_INT"), (1, u "T_LONG"), (1, u "SOFT_MAX_ARRAY_LENGTH")] 83

def k29m0 : Method := { name := "<init>", desc := "()V", sig := { parameters := [], returnType := none }, accessFlags := 2, code := none }
/-- jdk/internal/util/ArraysSupport -/
def k29 : Class := { plain "jdk/internal/util/ArraysSupport" (some 0) with
  accessFlags := 33
  interfaces := #[]
  cf := some (fileOf pool29 21 #[] #[{ accessFlags := 2, nameIndex := 9, descriptorIndex := 19, attributes := #[] }] 33 16 #[] #[{ accessFlags := 24, nameIndex := 28, descriptorIndex := 29, attributes := #[] }, { accessFlags := 26, nameIndex := 38, descriptorIndex := 39, attributes := #[] }, { accessFlags := 25, nameIndex := 121, descriptorIndex := 25, attributes := #[] }, { accessFlags := 25, nameIndex := 131, descriptorIndex := 25, attributes := #[] }, { accessFlags := 25, nameIndex := 137, descriptorIndex := 25, attributes := #[] }, { accessFlags := 25, nameIndex := 143, descriptorIndex := 25, attributes := #[] }, { accessFlags := 25, nameIndex := 53, descriptorIndex := 25, attributes := #[] }, { accessFlags := 25, nameIndex := 24, descriptorIndex := 25, attributes := #[] }, { accessFlags := 25, nameIndex := 162, descriptorIndex := 25, attributes := #[] }, { accessFlags := 25, nameIndex := 187, descriptorIndex := 25, attributes := #[] }, { accessFlags := 26, nameIndex := 48, descriptorIndex := 25, attributes := #[] }, { accessFlags := 25, nameIndex := 277, descriptorIndex := 25, attributes := #[] }, { accessFlags := 25, nameIndex := 280, descriptorIndex := 25, attributes := #[] }, { accessFlags := 25, nameIndex := 282, descriptorIndex := 25, attributes := #[] }, { accessFlags := 25, nameIndex := 284, descriptorIndex := 25, attributes := #[] }, { accessFlags := 25, nameIndex := 286, descriptorIndex := 25, attributes := #[] }, { accessFlags := 25, nameIndex := 288, descriptorIndex := 25, attributes := #[] }, { accessFlags := 25, nameIndex := 290, descriptorIndex := 25, attributes := #[] }, { accessFlags := 25, nameIndex := 292, descriptorIndex := 25, attributes := #[] }, { accessFlags := 26, nameIndex := 108, descriptorIndex := 109, attributes := #[] }, { accessFlags := 25, nameIndex := 294, descriptorIndex := 25, attributes := #[] }])
  fields := #[{ name := "U", type := (.object "jdk/internal/misc/Unsafe"), accessFlags := 24, slot := 0, constantValue := 0 }, { name := "BIG_ENDIAN", type := .boolean, accessFlags := 26, slot := 1, constantValue := 0 }, { name := "LOG2_ARRAY_BOOLEAN_INDEX_SCALE", type := .int, accessFlags := 25, slot := 2, constantValue := 0 }, { name := "LOG2_ARRAY_BYTE_INDEX_SCALE", type := .int, accessFlags := 25, slot := 3, constantValue := 0 }, { name := "LOG2_ARRAY_CHAR_INDEX_SCALE", type := .int, accessFlags := 25, slot := 4, constantValue := 0 }, { name := "LOG2_ARRAY_SHORT_INDEX_SCALE", type := .int, accessFlags := 25, slot := 5, constantValue := 0 }, { name := "LOG2_ARRAY_INT_INDEX_SCALE", type := .int, accessFlags := 25, slot := 6, constantValue := 0 }, { name := "LOG2_ARRAY_LONG_INDEX_SCALE", type := .int, accessFlags := 25, slot := 7, constantValue := 0 }, { name := "LOG2_ARRAY_FLOAT_INDEX_SCALE", type := .int, accessFlags := 25, slot := 8, constantValue := 0 }, { name := "LOG2_ARRAY_DOUBLE_INDEX_SCALE", type := .int, accessFlags := 25, slot := 9, constantValue := 0 }, { name := "LOG2_BYTE_BIT_SIZE", type := .int, accessFlags := 26, slot := 10, constantValue := 0 }, { name := "T_BOOLEAN", type := .int, accessFlags := 25, slot := 11, constantValue := 0 }, { name := "T_CHAR", type := .int, accessFlags := 25, slot := 12, constantValue := 0 }, { name := "T_FLOAT", type := .int, accessFlags := 25, slot := 13, constantValue := 0 }, { name := "T_DOUBLE", type := .int, accessFlags := 25, slot := 14, constantValue := 0 }, { name := "T_BYTE", type := .int, accessFlags := 25, slot := 15, constantValue := 0 }, { name := "T_SHORT", type := .int, accessFlags := 25, slot := 16, constantValue := 0 }, { name := "T_INT", type := .int, accessFlags := 25, slot := 17, constantValue := 0 }, { name := "T_LONG", type := .int, accessFlags := 25, slot := 18, constantValue := 0 }, { name := "JLA", type := (.object "jdk/internal/access/JavaLangAccess"), accessFlags := 26, slot := 19, constantValue := 0 }, { name := "SOFT_MAX_ARRAY_LENGTH", type := .int, accessFlags := 25, slot := 20, constantValue := 0 }]
  methods := #[k29m0]
  instanceTypes := #[]
  staticTypes := #[(.object "jdk/internal/misc/Unsafe"), .boolean, .int, .int, .int, .int, .int, .int, .int, .int, .int, .int, .int, .int, .int, .int, .int, .int, .int, (.object "jdk/internal/access/JavaLangAccess"), .int]
  resolved := Array.replicate 378 none
  statics := none }

def pool30 : Array CpInfo := pool [(1, u "java/lang/Class"), (0, .class_ 1), (0, u "java/lang/Object"), (0, .class_ 3)] 0

/-- java/lang/Class -/
def k30 : Class := { plain "java/lang/Class" (some 0) with
  accessFlags := 49
  interfaces := #[]
  cf := some (fileOf pool30 2 #[] #[] 49 4 #[] #[])
  fields := #[]
  methods := #[]
  instanceTypes := #[]
  staticTypes := #[]
  resolved := Array.replicate 5 none
  statics := none }

/-- the primitive byte -/
def k31 : Class := { plain "byte" none with kind := .primitive 'B', accessFlags := 0x411 }
/-- [B -/
def k32 : Class := { plain "[B" (some 0) with kind := .array 31 .byte, interfaces := #[17, 5], accessFlags := 1041 }

/-- [Ljava/lang/Integer; -/
def k33 : Class := { plain "[Ljava/lang/Integer;" (some 0) with kind := .array 13 (.object "java/lang/Integer"), interfaces := #[17, 5], accessFlags := 1041 }

/-- [Ljava/lang/Object; -/
def k34 : Class := { plain "[Ljava/lang/Object;" (some 0) with kind := .array 0 (.object "java/lang/Object"), interfaces := #[17, 5], accessFlags := 1041 }

/-- [Ljava/util/HashMap$Node; -/
def k35 : Class := { plain "[Ljava/util/HashMap$Node;" (some 0) with kind := .array 24 (.object "java/util/HashMap$Node"), interfaces := #[17, 5], accessFlags := 1041 }

def heap : Heap := #[{ cls := 4, slots := #[.long 0, .int 0, .null, .null, .null, .null, .null, .ref 264, .int 0, .int 0], vm := .statics 4 },
  { cls := 10, slots := #[.long 0, .int 1, .null, .int 0, .null, .int 0, .int 0], vm := .statics 10 },
  { cls := 14, slots := #[.int 0, .int 127, .ref 6, .null, .int 0], vm := .statics 14 },
  { cls := 28, slots := #[.null, .null, .null], vm := .statics 28 },
  { cls := 30, slots := #[], vm := .mirror 20 },
  { cls := 30, slots := #[], vm := .mirror 27 },
  { cls := 33, slots := #[.ref 8, .ref 9, .ref 10, .ref 11, .ref 12, .ref 13, .ref 14, .ref 15, .ref 16, .ref 17, .ref 18, .ref 19, .ref 20, .ref 21, .ref 22, .ref 23, .ref 24, .ref 25, .ref 26, .ref 27, .ref 28, .ref 29, .ref 30, .ref 31, .ref 32, .ref 33, .ref 34, .ref 35, .ref 36, .ref 37, .ref 38, .ref 39, .ref 40, .ref 41, .ref 42, .ref 43, .ref 44, .ref 45, .ref 46, .ref 47, .ref 48, .ref 49, .ref 50, .ref 51, .ref 52, .ref 53, .ref 54, .ref 55, .ref 56, .ref 57, .ref 58, .ref 59, .ref 60, .ref 61, .ref 62, .ref 63, .ref 64, .ref 65, .ref 66, .ref 67, .ref 68, .ref 69, .ref 70, .ref 71, .ref 72, .ref 73, .ref 74, .ref 75, .ref 76, .ref 77, .ref 78, .ref 79, .ref 80, .ref 81, .ref 82, .ref 83, .ref 84, .ref 85, .ref 86, .ref 87, .ref 88, .ref 89, .ref 90, .ref 91, .ref 92, .ref 93, .ref 94, .ref 95, .ref 96, .ref 97, .ref 98, .ref 99, .ref 100, .ref 101, .ref 102, .ref 103, .ref 104, .ref 105, .ref 106, .ref 107, .ref 108, .ref 109, .ref 110, .ref 111, .ref 112, .ref 113, .ref 114, .ref 115, .ref 116, .ref 117, .ref 118, .ref 119, .ref 120, .ref 121, .ref 122, .ref 123, .ref 124, .ref 125, .ref 126, .ref 127, .ref 128, .ref 129, .ref 130, .ref 131, .ref 132, .ref 133, .ref 134, .ref 135, .ref 136, .ref 137, .ref 138, .ref 139, .ref 140, .ref 141, .ref 142, .ref 143, .ref 144, .ref 145, .ref 146, .ref 147, .ref 148, .ref 149, .ref 150, .ref 151, .ref 152, .ref 153, .ref 154, .ref 155, .ref 156, .ref 157, .ref 158, .ref 159, .ref 160, .ref 161, .ref 162, .ref 163, .ref 164, .ref 165, .ref 166, .ref 167, .ref 168, .ref 169, .ref 170, .ref 171, .ref 172, .ref 173, .ref 174, .ref 175, .ref 176, .ref 177, .ref 178, .ref 179, .ref 180, .ref 181, .ref 182, .ref 183, .ref 184, .ref 185, .ref 186, .ref 187, .ref 188, .ref 189, .ref 190, .ref 191, .ref 192, .ref 193, .ref 194, .ref 195, .ref 196, .ref 197, .ref 198, .ref 199, .ref 200, .ref 201, .ref 202, .ref 203, .ref 204, .ref 205, .ref 206, .ref 207, .ref 208, .ref 209, .ref 210, .ref 211, .ref 212, .ref 213, .ref 214, .ref 215, .ref 216, .ref 217, .ref 218, .ref 219, .ref 220, .ref 221, .ref 222, .ref 223, .ref 224, .ref 225, .ref 226, .ref 227, .ref 228, .ref 229, .ref 230, .ref 231, .ref 232, .ref 233, .ref 234, .ref 235, .ref 236, .ref 237, .ref 238, .ref 239, .ref 240, .ref 241, .ref 242, .ref 243, .ref 244, .ref 245, .ref 246, .ref 247, .ref 248, .ref 249, .ref 250, .ref 251, .ref 252, .ref 253, .ref 254, .ref 255, .ref 256, .ref 257, .ref 258, .ref 259, .ref 260, .ref 261, .ref 262, .ref 263], vm := .none },
  { cls := 34, slots := #[], vm := .none },
  { cls := 13, slots := #[.int (-128)], vm := .none },
  { cls := 13, slots := #[.int (-127)], vm := .none },
  { cls := 13, slots := #[.int (-126)], vm := .none },
  { cls := 13, slots := #[.int (-125)], vm := .none },
  { cls := 13, slots := #[.int (-124)], vm := .none },
  { cls := 13, slots := #[.int (-123)], vm := .none },
  { cls := 13, slots := #[.int (-122)], vm := .none },
  { cls := 13, slots := #[.int (-121)], vm := .none },
  { cls := 13, slots := #[.int (-120)], vm := .none },
  { cls := 13, slots := #[.int (-119)], vm := .none },
  { cls := 13, slots := #[.int (-118)], vm := .none },
  { cls := 13, slots := #[.int (-117)], vm := .none },
  { cls := 13, slots := #[.int (-116)], vm := .none },
  { cls := 13, slots := #[.int (-115)], vm := .none },
  { cls := 13, slots := #[.int (-114)], vm := .none },
  { cls := 13, slots := #[.int (-113)], vm := .none },
  { cls := 13, slots := #[.int (-112)], vm := .none },
  { cls := 13, slots := #[.int (-111)], vm := .none },
  { cls := 13, slots := #[.int (-110)], vm := .none },
  { cls := 13, slots := #[.int (-109)], vm := .none },
  { cls := 13, slots := #[.int (-108)], vm := .none },
  { cls := 13, slots := #[.int (-107)], vm := .none },
  { cls := 13, slots := #[.int (-106)], vm := .none },
  { cls := 13, slots := #[.int (-105)], vm := .none },
  { cls := 13, slots := #[.int (-104)], vm := .none },
  { cls := 13, slots := #[.int (-103)], vm := .none },
  { cls := 13, slots := #[.int (-102)], vm := .none },
  { cls := 13, slots := #[.int (-101)], vm := .none },
  { cls := 13, slots := #[.int (-100)], vm := .none },
  { cls := 13, slots := #[.int (-99)], vm := .none },
  { cls := 13, slots := #[.int (-98)], vm := .none },
  { cls := 13, slots := #[.int (-97)], vm := .none },
  { cls := 13, slots := #[.int (-96)], vm := .none },
  { cls := 13, slots := #[.int (-95)], vm := .none },
  { cls := 13, slots := #[.int (-94)], vm := .none },
  { cls := 13, slots := #[.int (-93)], vm := .none },
  { cls := 13, slots := #[.int (-92)], vm := .none },
  { cls := 13, slots := #[.int (-91)], vm := .none },
  { cls := 13, slots := #[.int (-90)], vm := .none },
  { cls := 13, slots := #[.int (-89)], vm := .none },
  { cls := 13, slots := #[.int (-88)], vm := .none },
  { cls := 13, slots := #[.int (-87)], vm := .none },
  { cls := 13, slots := #[.int (-86)], vm := .none },
  { cls := 13, slots := #[.int (-85)], vm := .none },
  { cls := 13, slots := #[.int (-84)], vm := .none },
  { cls := 13, slots := #[.int (-83)], vm := .none },
  { cls := 13, slots := #[.int (-82)], vm := .none },
  { cls := 13, slots := #[.int (-81)], vm := .none },
  { cls := 13, slots := #[.int (-80)], vm := .none },
  { cls := 13, slots := #[.int (-79)], vm := .none },
  { cls := 13, slots := #[.int (-78)], vm := .none },
  { cls := 13, slots := #[.int (-77)], vm := .none },
  { cls := 13, slots := #[.int (-76)], vm := .none },
  { cls := 13, slots := #[.int (-75)], vm := .none },
  { cls := 13, slots := #[.int (-74)], vm := .none },
  { cls := 13, slots := #[.int (-73)], vm := .none },
  { cls := 13, slots := #[.int (-72)], vm := .none },
  { cls := 13, slots := #[.int (-71)], vm := .none },
  { cls := 13, slots := #[.int (-70)], vm := .none },
  { cls := 13, slots := #[.int (-69)], vm := .none },
  { cls := 13, slots := #[.int (-68)], vm := .none },
  { cls := 13, slots := #[.int (-67)], vm := .none },
  { cls := 13, slots := #[.int (-66)], vm := .none },
  { cls := 13, slots := #[.int (-65)], vm := .none },
  { cls := 13, slots := #[.int (-64)], vm := .none },
  { cls := 13, slots := #[.int (-63)], vm := .none },
  { cls := 13, slots := #[.int (-62)], vm := .none },
  { cls := 13, slots := #[.int (-61)], vm := .none },
  { cls := 13, slots := #[.int (-60)], vm := .none },
  { cls := 13, slots := #[.int (-59)], vm := .none },
  { cls := 13, slots := #[.int (-58)], vm := .none },
  { cls := 13, slots := #[.int (-57)], vm := .none },
  { cls := 13, slots := #[.int (-56)], vm := .none },
  { cls := 13, slots := #[.int (-55)], vm := .none },
  { cls := 13, slots := #[.int (-54)], vm := .none },
  { cls := 13, slots := #[.int (-53)], vm := .none },
  { cls := 13, slots := #[.int (-52)], vm := .none },
  { cls := 13, slots := #[.int (-51)], vm := .none },
  { cls := 13, slots := #[.int (-50)], vm := .none },
  { cls := 13, slots := #[.int (-49)], vm := .none },
  { cls := 13, slots := #[.int (-48)], vm := .none },
  { cls := 13, slots := #[.int (-47)], vm := .none },
  { cls := 13, slots := #[.int (-46)], vm := .none },
  { cls := 13, slots := #[.int (-45)], vm := .none },
  { cls := 13, slots := #[.int (-44)], vm := .none },
  { cls := 13, slots := #[.int (-43)], vm := .none },
  { cls := 13, slots := #[.int (-42)], vm := .none },
  { cls := 13, slots := #[.int (-41)], vm := .none },
  { cls := 13, slots := #[.int (-40)], vm := .none },
  { cls := 13, slots := #[.int (-39)], vm := .none },
  { cls := 13, slots := #[.int (-38)], vm := .none },
  { cls := 13, slots := #[.int (-37)], vm := .none },
  { cls := 13, slots := #[.int (-36)], vm := .none },
  { cls := 13, slots := #[.int (-35)], vm := .none },
  { cls := 13, slots := #[.int (-34)], vm := .none },
  { cls := 13, slots := #[.int (-33)], vm := .none },
  { cls := 13, slots := #[.int (-32)], vm := .none },
  { cls := 13, slots := #[.int (-31)], vm := .none },
  { cls := 13, slots := #[.int (-30)], vm := .none },
  { cls := 13, slots := #[.int (-29)], vm := .none },
  { cls := 13, slots := #[.int (-28)], vm := .none },
  { cls := 13, slots := #[.int (-27)], vm := .none },
  { cls := 13, slots := #[.int (-26)], vm := .none },
  { cls := 13, slots := #[.int (-25)], vm := .none },
  { cls := 13, slots := #[.int (-24)], vm := .none },
  { cls := 13, slots := #[.int (-23)], vm := .none },
  { cls := 13, slots := #[.int (-22)], vm := .none },
  { cls := 13, slots := #[.int (-21)], vm := .none },
  { cls := 13, slots := #[.int (-20)], vm := .none },
  { cls := 13, slots := #[.int (-19)], vm := .none },
  { cls := 13, slots := #[.int (-18)], vm := .none },
  { cls := 13, slots := #[.int (-17)], vm := .none },
  { cls := 13, slots := #[.int (-16)], vm := .none },
  { cls := 13, slots := #[.int (-15)], vm := .none },
  { cls := 13, slots := #[.int (-14)], vm := .none },
  { cls := 13, slots := #[.int (-13)], vm := .none },
  { cls := 13, slots := #[.int (-12)], vm := .none },
  { cls := 13, slots := #[.int (-11)], vm := .none },
  { cls := 13, slots := #[.int (-10)], vm := .none },
  { cls := 13, slots := #[.int (-9)], vm := .none },
  { cls := 13, slots := #[.int (-8)], vm := .none },
  { cls := 13, slots := #[.int (-7)], vm := .none },
  { cls := 13, slots := #[.int (-6)], vm := .none },
  { cls := 13, slots := #[.int (-5)], vm := .none },
  { cls := 13, slots := #[.int (-4)], vm := .none },
  { cls := 13, slots := #[.int (-3)], vm := .none },
  { cls := 13, slots := #[.int (-2)], vm := .none },
  { cls := 13, slots := #[.int (-1)], vm := .none },
  { cls := 13, slots := #[.int (0)], vm := .none },
  { cls := 13, slots := #[.int (1)], vm := .none },
  { cls := 13, slots := #[.int (2)], vm := .none },
  { cls := 13, slots := #[.int (3)], vm := .none },
  { cls := 13, slots := #[.int (4)], vm := .none },
  { cls := 13, slots := #[.int (5)], vm := .none },
  { cls := 13, slots := #[.int (6)], vm := .none },
  { cls := 13, slots := #[.int (7)], vm := .none },
  { cls := 13, slots := #[.int (8)], vm := .none },
  { cls := 13, slots := #[.int (9)], vm := .none },
  { cls := 13, slots := #[.int (10)], vm := .none },
  { cls := 13, slots := #[.int (11)], vm := .none },
  { cls := 13, slots := #[.int (12)], vm := .none },
  { cls := 13, slots := #[.int (13)], vm := .none },
  { cls := 13, slots := #[.int (14)], vm := .none },
  { cls := 13, slots := #[.int (15)], vm := .none },
  { cls := 13, slots := #[.int (16)], vm := .none },
  { cls := 13, slots := #[.int (17)], vm := .none },
  { cls := 13, slots := #[.int (18)], vm := .none },
  { cls := 13, slots := #[.int (19)], vm := .none },
  { cls := 13, slots := #[.int (20)], vm := .none },
  { cls := 13, slots := #[.int (21)], vm := .none },
  { cls := 13, slots := #[.int (22)], vm := .none },
  { cls := 13, slots := #[.int (23)], vm := .none },
  { cls := 13, slots := #[.int (24)], vm := .none },
  { cls := 13, slots := #[.int (25)], vm := .none },
  { cls := 13, slots := #[.int (26)], vm := .none },
  { cls := 13, slots := #[.int (27)], vm := .none },
  { cls := 13, slots := #[.int (28)], vm := .none },
  { cls := 13, slots := #[.int (29)], vm := .none },
  { cls := 13, slots := #[.int (30)], vm := .none },
  { cls := 13, slots := #[.int (31)], vm := .none },
  { cls := 13, slots := #[.int (32)], vm := .none },
  { cls := 13, slots := #[.int (33)], vm := .none },
  { cls := 13, slots := #[.int (34)], vm := .none },
  { cls := 13, slots := #[.int (35)], vm := .none },
  { cls := 13, slots := #[.int (36)], vm := .none },
  { cls := 13, slots := #[.int (37)], vm := .none },
  { cls := 13, slots := #[.int (38)], vm := .none },
  { cls := 13, slots := #[.int (39)], vm := .none },
  { cls := 13, slots := #[.int (40)], vm := .none },
  { cls := 13, slots := #[.int (41)], vm := .none },
  { cls := 13, slots := #[.int (42)], vm := .none },
  { cls := 13, slots := #[.int (43)], vm := .none },
  { cls := 13, slots := #[.int (44)], vm := .none },
  { cls := 13, slots := #[.int (45)], vm := .none },
  { cls := 13, slots := #[.int (46)], vm := .none },
  { cls := 13, slots := #[.int (47)], vm := .none },
  { cls := 13, slots := #[.int (48)], vm := .none },
  { cls := 13, slots := #[.int (49)], vm := .none },
  { cls := 13, slots := #[.int (50)], vm := .none },
  { cls := 13, slots := #[.int (51)], vm := .none },
  { cls := 13, slots := #[.int (52)], vm := .none },
  { cls := 13, slots := #[.int (53)], vm := .none },
  { cls := 13, slots := #[.int (54)], vm := .none },
  { cls := 13, slots := #[.int (55)], vm := .none },
  { cls := 13, slots := #[.int (56)], vm := .none },
  { cls := 13, slots := #[.int (57)], vm := .none },
  { cls := 13, slots := #[.int (58)], vm := .none },
  { cls := 13, slots := #[.int (59)], vm := .none },
  { cls := 13, slots := #[.int (60)], vm := .none },
  { cls := 13, slots := #[.int (61)], vm := .none },
  { cls := 13, slots := #[.int (62)], vm := .none },
  { cls := 13, slots := #[.int (63)], vm := .none },
  { cls := 13, slots := #[.int (64)], vm := .none },
  { cls := 13, slots := #[.int (65)], vm := .none },
  { cls := 13, slots := #[.int (66)], vm := .none },
  { cls := 13, slots := #[.int (67)], vm := .none },
  { cls := 13, slots := #[.int (68)], vm := .none },
  { cls := 13, slots := #[.int (69)], vm := .none },
  { cls := 13, slots := #[.int (70)], vm := .none },
  { cls := 13, slots := #[.int (71)], vm := .none },
  { cls := 13, slots := #[.int (72)], vm := .none },
  { cls := 13, slots := #[.int (73)], vm := .none },
  { cls := 13, slots := #[.int (74)], vm := .none },
  { cls := 13, slots := #[.int (75)], vm := .none },
  { cls := 13, slots := #[.int (76)], vm := .none },
  { cls := 13, slots := #[.int (77)], vm := .none },
  { cls := 13, slots := #[.int (78)], vm := .none },
  { cls := 13, slots := #[.int (79)], vm := .none },
  { cls := 13, slots := #[.int (80)], vm := .none },
  { cls := 13, slots := #[.int (81)], vm := .none },
  { cls := 13, slots := #[.int (82)], vm := .none },
  { cls := 13, slots := #[.int (83)], vm := .none },
  { cls := 13, slots := #[.int (84)], vm := .none },
  { cls := 13, slots := #[.int (85)], vm := .none },
  { cls := 13, slots := #[.int (86)], vm := .none },
  { cls := 13, slots := #[.int (87)], vm := .none },
  { cls := 13, slots := #[.int (88)], vm := .none },
  { cls := 13, slots := #[.int (89)], vm := .none },
  { cls := 13, slots := #[.int (90)], vm := .none },
  { cls := 13, slots := #[.int (91)], vm := .none },
  { cls := 13, slots := #[.int (92)], vm := .none },
  { cls := 13, slots := #[.int (93)], vm := .none },
  { cls := 13, slots := #[.int (94)], vm := .none },
  { cls := 13, slots := #[.int (95)], vm := .none },
  { cls := 13, slots := #[.int (96)], vm := .none },
  { cls := 13, slots := #[.int (97)], vm := .none },
  { cls := 13, slots := #[.int (98)], vm := .none },
  { cls := 13, slots := #[.int (99)], vm := .none },
  { cls := 13, slots := #[.int (100)], vm := .none },
  { cls := 13, slots := #[.int (101)], vm := .none },
  { cls := 13, slots := #[.int (102)], vm := .none },
  { cls := 13, slots := #[.int (103)], vm := .none },
  { cls := 13, slots := #[.int (104)], vm := .none },
  { cls := 13, slots := #[.int (105)], vm := .none },
  { cls := 13, slots := #[.int (106)], vm := .none },
  { cls := 13, slots := #[.int (107)], vm := .none },
  { cls := 13, slots := #[.int (108)], vm := .none },
  { cls := 13, slots := #[.int (109)], vm := .none },
  { cls := 13, slots := #[.int (110)], vm := .none },
  { cls := 13, slots := #[.int (111)], vm := .none },
  { cls := 13, slots := #[.int (112)], vm := .none },
  { cls := 13, slots := #[.int (113)], vm := .none },
  { cls := 13, slots := #[.int (114)], vm := .none },
  { cls := 13, slots := #[.int (115)], vm := .none },
  { cls := 13, slots := #[.int (116)], vm := .none },
  { cls := 13, slots := #[.int (117)], vm := .none },
  { cls := 13, slots := #[.int (118)], vm := .none },
  { cls := 13, slots := #[.int (119)], vm := .none },
  { cls := 13, slots := #[.int (120)], vm := .none },
  { cls := 13, slots := #[.int (121)], vm := .none },
  { cls := 13, slots := #[.int (122)], vm := .none },
  { cls := 13, slots := #[.int (123)], vm := .none },
  { cls := 13, slots := #[.int (124)], vm := .none },
  { cls := 13, slots := #[.int (125)], vm := .none },
  { cls := 13, slots := #[.int (126)], vm := .none },
  { cls := 13, slots := #[.int (127)], vm := .none },
  { cls := 22, slots := #[.null, .null, .ref 7, .int 0], vm := .none }]
def classes : Array Class := #[k0, k1, k2, k3, k4, k5, k6, k7, k8, k9, k10, k11, k12, k13, k14, k15, k16, k17, k18, k19, k20, k21, k22, k23, k24, k25, k26, k27, k28, k29, k30, k31, k32, k33, k34, k35]
def interned : List (Array UInt16 × Addr) := []
def slotsUsed : Nat := 541
def theMethod : MethodId := ⟨1, 1⟩
def args0 : Array Value := #[.int 5, .int 5]
def aboutOver (below : List Frame) : State where
  vm := { classes := classes, interned := interned.toArray }
  heap := heap
  slotsUsed := slotsUsed
  threads := #[{ frames := .invoking theMethod args0 :: below }]
def below0 : List Frame := [.native { method := ⟨0, 0⟩, args := #[] }]
def about1 : State := aboutOver below0
def p0 : Program := .bare "" "" ""
def e0 : Env := launch0.env 0 0 0
theorem w_frames : about1.frames = Frame.invoking theMethod args0 :: below0 := rfl
set_option maxRecDepth 65536 in
theorem w_args : argsFit about1.vm theMethod args0 = true := by decide +kernel
set_option maxRecDepth 65536 in
theorem w_heap : heapFits about1 = true := by decide +kernel
set_option maxRecDepth 65536 in
theorem w_runnable : about1.curStatus? = some .runnable := by decide +kernel
set_option maxRecDepth 65536 in
theorem w_alone : about1.alone = true := by decide +kernel
set_option maxRecDepth 65536 in
theorem w_named : about1.methodNamed? x = some theMethod := by decide +kernel
set_option maxRecDepth 65536 in
theorem w_hears : about1.hears theMethod below0 = true := by decide +kernel
set_option maxRecDepth 65536 in
theorem w_ripe : about1.ripe theMethod args0 below0 = true := by decide +kernel
theorem w_running : about1.status = .running := rfl
set_option maxRecDepth 65536 in
theorem w_room : about1.hasRoom e0.platform room_1 = true :=
  launch0.hasRoom_least _ room_1 (by decide +kernel) (by decide +kernel) (by decide +kernel) (by decide +kernel) (by decide +kernel) (by decide +kernel)
theorem allAtoms_all (ts : List Jvm.Cond) (a : Array Jvm.Value) (st : Jvm.State) : (allAtoms ts).before a st = ts.all (fun c => c.before a st) := by
  induction ts with
  | nil => rfl
  | cons c t ih =>
    show (Jvm.Cond.and c (allAtoms t)).before a st = _
    rw [Jvm.Cond.before_and, ih, List.all_cons]
def words1 : List Jvm.Cond := Jvm.Cond.code x code maxLocals ret :: tables_1
/-- a 'code' word, met by the world's own term for the bytes: nothing is compared byte by byte -/
theorem code_word {y : MethodName} {bytes : ByteArray} {mx : Nat} {rt : Option FieldType} {a : Array Value} {s : State} {m : MethodId} {meth : Method} {c : Code} (h1 : s.methodNamed? y = some m) (h2 : s.vm.method? m = some meth) (h3 : meth.code = some c) (h4 : c.code = bytes)
    (h5 : (c.maxLocals == mx && c.exceptionTable.isEmpty && decide (c.maxStack ≤ mostOperands) && decide (meth.sig.returnType = rt) && !meth.locks && decide (parseMethodDescriptor y.desc = some meth.sig)) = true) : (Jvm.Cond.code y bytes mx rt).before a s = true := by
  simp only [Bool.and_eq_true, beq_iff_eq, Bool.not_eq_true', decide_eq_true_eq] at h5
  obtain ⟨⟨⟨⟨⟨g1, g2⟩, g3⟩, g4⟩, g5⟩, g6⟩ := h5
  simp [Cond.before, Cond.holds, Cond.value, h1, h2, h3, h4, g1, g2, g3, g4, g5, g6]
def isCode : Jvm.Cond → Bool
  | .code _ _ _ _ => true
  | _ => false
theorem all_split {L : List Jvm.Cond} {P : Jvm.Cond → Bool} (h1 : L.all (fun c => isCode c || P c) = true) (h2 : ∀ c ∈ L.filter isCode, P c = true) : L.all P = true := by
  refine List.all_eq_true.mpr fun c hc => ?_
  have h := List.all_eq_true.mp h1 c hc
  rcases Bool.eq_false_or_eq_true (isCode c) with hi | hi
  · exact h2 c (List.mem_filter.mpr ⟨hc, hi⟩)
  · simpa [hi] using h
set_option maxRecDepth 65536 in
theorem w_c0 : (Jvm.Cond.code x code maxLocals ret).before args0 about1 = true := code_word (m := ⟨1, 1⟩) (meth := k1m1) (c := k1c1) (by decide +kernel) rfl rfl rfl (by decide +kernel)
set_option maxRecDepth 65536 in
theorem w_c1 : (Jvm.Cond.code ({ cls := "com/example/bowline/bowline/sdk/TaskResult", name := "success", desc := "()Lcom/example/bowline/bowline/sdk/TaskResult;" } : Jvm.MethodName) prog_19_method_2_code (0 : Nat) (Option.some (Jvm.ClassFile.FieldType.object "com/example/bowline/bowline/sdk/TaskResult"))).before args0 about1 = true := code_word (m := ⟨2, 1⟩) (meth := k2m1) (c := k2c1) (by decide +kernel) rfl rfl rfl (by decide +kernel)
set_option maxRecDepth 65536 in
theorem w_c2 : (Jvm.Cond.code ({ cls := "java/util/Map", name := "of", desc := "()Ljava/util/Map;" } : Jvm.MethodName) jdk_72_method_26_code (0 : Nat) (Option.some (Jvm.ClassFile.FieldType.object "java/util/Map"))).before args0 about1 = true := code_word (m := ⟨3, 2⟩) (meth := k3m2) (c := k3c2) (by decide +kernel) rfl rfl rfl (by decide +kernel)
set_option maxRecDepth 65536 in
theorem w_c3 : (Jvm.Cond.code ({ cls := "com/example/bowline/bowline/sdk/TaskResult", name := "<init>", desc := "(Ljava/lang/String;Ljava/util/Map;)V" } : Jvm.MethodName) prog_19_method_1_code (3 : Nat) (Option.none : Option Jvm.ClassFile.FieldType)).before args0 about1 = true := code_word (m := ⟨2, 0⟩) (meth := k2m0) (c := k2c0) (by decide +kernel) rfl rfl rfl (by decide +kernel)
set_option maxRecDepth 65536 in
theorem w_c4 : (Jvm.Cond.code ({ cls := "java/lang/Object", name := "<init>", desc := "()V" } : Jvm.MethodName) object_method_1_code (1 : Nat) (Option.none : Option Jvm.ClassFile.FieldType)).before args0 about1 = true := code_word (m := ⟨0, 0⟩) (meth := k0m0) (c := k0c0) (by decide +kernel) rfl rfl rfl (by decide +kernel)
set_option maxRecDepth 65536 in
theorem w_c5 : (Jvm.Cond.code ({ cls := "java/lang/String", name := "valueOf", desc := "(C)Ljava/lang/String;" } : Jvm.MethodName) jdk_42_method_139_code (1 : Nat) (Option.some (Jvm.ClassFile.FieldType.object "java/lang/String"))).before args0 about1 = true := code_word (m := ⟨10, 3⟩) (meth := k10m3) (c := k10c3) (by decide +kernel) rfl rfl rfl (by decide +kernel)
set_option maxRecDepth 65536 in
theorem w_c6 : (Jvm.Cond.code ({ cls := "java/lang/StringLatin1", name := "canEncode", desc := "(C)Z" } : Jvm.MethodName) jdk_43_method_3_code (1 : Nat) (Option.some Jvm.ClassFile.FieldType.boolean)).before args0 about1 = true := code_word (m := ⟨11, 1⟩) (meth := k11m1) (c := k11c1) (by decide +kernel) rfl rfl rfl (by decide +kernel)
set_option maxRecDepth 65536 in
theorem w_c7 : (Jvm.Cond.code ({ cls := "java/lang/StringLatin1", name := "toBytes", desc := "(C)[B" } : Jvm.MethodName) jdk_43_method_46_code (1 : Nat) (Option.some (Jvm.ClassFile.FieldType.array Jvm.ClassFile.FieldType.byte))).before args0 about1 = true := code_word (m := ⟨11, 4⟩) (meth := k11m4) (c := k11c4) (by decide +kernel) rfl rfl rfl (by decide +kernel)
set_option maxRecDepth 65536 in
theorem w_c8 : (Jvm.Cond.code ({ cls := "java/lang/String", name := "<init>", desc := "([BB)V" } : Jvm.MethodName) jdk_42_method_151_code (3 : Nat) (Option.none : Option Jvm.ClassFile.FieldType)).before args0 about1 = true := code_word (m := ⟨10, 4⟩) (meth := k10m4) (c := k10c4) (by decide +kernel) rfl rfl rfl (by decide +kernel)
set_option maxRecDepth 65536 in
theorem w_c9 : (Jvm.Cond.code ({ cls := "java/lang/Integer", name := "valueOf", desc := "(I)Ljava/lang/Integer;" } : Jvm.MethodName) jdk_33_method_22_code (1 : Nat) (Option.some (Jvm.ClassFile.FieldType.object "java/lang/Integer"))).before args0 about1 = true := code_word (m := ⟨13, 0⟩) (meth := k13m0) (c := k13c0) (by decide +kernel) rfl rfl rfl (by decide +kernel)
set_option maxRecDepth 65536 in
theorem w_c10 : (Jvm.Cond.code ({ cls := "com/example/bowline/bowline/sdk/TaskResult", name := "value", desc := "(Ljava/lang/String;Ljava/lang/Object;)Lcom/example/bowline/bowline/sdk/TaskResult;" } : Jvm.MethodName) prog_19_method_4_code (4 : Nat) (Option.some (Jvm.ClassFile.FieldType.object "com/example/bowline/bowline/sdk/TaskResult"))).before args0 about1 = true := code_word (m := ⟨2, 2⟩) (meth := k2m2) (c := k2c2) (by decide +kernel) rfl rfl rfl (by decide +kernel)
set_option maxRecDepth 65536 in
theorem w_c11 : (Jvm.Cond.code ({ cls := "java/util/Objects", name := "requireNonNull", desc := "(Ljava/lang/Object;Ljava/lang/String;)Ljava/lang/Object;" } : Jvm.MethodName) jdk_31_method_11_code (2 : Nat) (Option.some (Jvm.ClassFile.FieldType.object "java/lang/Object"))).before args0 about1 = true := code_word (m := ⟨15, 1⟩) (meth := k15m1) (c := k15c1) (by decide +kernel) rfl rfl rfl (by decide +kernel)
set_option maxRecDepth 65536 in
theorem w_c12 : (Jvm.Cond.code ({ cls := "java/lang/String", name := "equals", desc := "(Ljava/lang/Object;)Z" } : Jvm.MethodName) jdk_42_method_66_code (3 : Nat) (Option.some Jvm.ClassFile.FieldType.boolean)).before args0 about1 = true := code_word (m := ⟨10, 1⟩) (meth := k10m1) (c := k10c1) (by decide +kernel) rfl rfl rfl (by decide +kernel)
set_option maxRecDepth 65536 in
theorem w_c13 : (Jvm.Cond.code ({ cls := "java/lang/StringLatin1", name := "equals", desc := "([B[B)Z" } : Jvm.MethodName) jdk_43_method_13_code (3 : Nat) (Option.some Jvm.ClassFile.FieldType.boolean)).before args0 about1 = true := code_word (m := ⟨11, 2⟩) (meth := k11m2) (c := k11c2) (by decide +kernel) rfl rfl rfl (by decide +kernel)
set_option maxRecDepth 65536 in
theorem w_c14 : (Jvm.Cond.code ({ cls := "java/util/LinkedHashMap", name := "<init>", desc := "(Ljava/util/Map;)V" } : Jvm.MethodName) jdk_94_method_17_code (2 : Nat) (Option.none : Option Jvm.ClassFile.FieldType)).before args0 about1 = true := code_word (m := ⟨20, 4⟩) (meth := k20m4) (c := k20c4) (by decide +kernel) rfl rfl rfl (by decide +kernel)
set_option maxRecDepth 65536 in
theorem w_c15 : (Jvm.Cond.code ({ cls := "java/util/HashMap", name := "<init>", desc := "()V" } : Jvm.MethodName) jdk_69_method_7_code (1 : Nat) (Option.none : Option Jvm.ClassFile.FieldType)).before args0 about1 = true := code_word (m := ⟨18, 1⟩) (meth := k18m1) (c := k18c1) (by decide +kernel) rfl rfl rfl (by decide +kernel)
set_option maxRecDepth 65536 in
theorem w_c16 : (Jvm.Cond.code ({ cls := "java/util/AbstractMap", name := "<init>", desc := "()V" } : Jvm.MethodName) jdk_71_method_1_code (1 : Nat) (Option.none : Option Jvm.ClassFile.FieldType)).before args0 about1 = true := code_word (m := ⟨16, 0⟩) (meth := k16m0) (c := k16c0) (by decide +kernel) rfl rfl rfl (by decide +kernel)
set_option maxRecDepth 65536 in
theorem w_c17 : (Jvm.Cond.code ({ cls := "java/util/HashMap", name := "putMapEntries", desc := "(Ljava/util/Map;Z)V" } : Jvm.MethodName) jdk_69_method_9_code (8 : Nat) (Option.none : Option Jvm.ClassFile.FieldType)).before args0 about1 = true := code_word (m := ⟨18, 2⟩) (meth := k18m2) (c := k18c2) (by decide +kernel) rfl rfl rfl (by decide +kernel)
set_option maxRecDepth 65536 in
theorem w_c18 : (Jvm.Cond.code ({ cls := "java/util/ImmutableCollections$MapN", name := "size", desc := "()I" } : Jvm.MethodName) jdk_2605_method_6_code (1 : Nat) (Option.some Jvm.ClassFile.FieldType.int)).before args0 about1 = true := code_word (m := ⟨22, 0⟩) (meth := k22m0) (c := k22c0) (by decide +kernel) rfl rfl rfl (by decide +kernel)
set_option maxRecDepth 65536 in
theorem w_c19 : (Jvm.Cond.code ({ cls := "java/util/HashMap", name := "put", desc := "(Ljava/lang/Object;Ljava/lang/Object;)Ljava/lang/Object;" } : Jvm.MethodName) jdk_69_method_15_code (3 : Nat) (Option.some (Jvm.ClassFile.FieldType.object "java/lang/Object"))).before args0 about1 = true := code_word (m := ⟨18, 3⟩) (meth := k18m3) (c := k18c3) (by decide +kernel) rfl rfl rfl (by decide +kernel)
set_option maxRecDepth 65536 in
theorem w_c20 : (Jvm.Cond.code ({ cls := "java/util/HashMap", name := "hash", desc := "(Ljava/lang/Object;)I" } : Jvm.MethodName) jdk_69_method_1_code (2 : Nat) (Option.some Jvm.ClassFile.FieldType.int)).before args0 about1 = true := code_word (m := ⟨18, 0⟩) (meth := k18m0) (c := k18c0) (by decide +kernel) rfl rfl rfl (by decide +kernel)
set_option maxRecDepth 65536 in
theorem w_c21 : (Jvm.Cond.code ({ cls := "java/lang/String", name := "hashCode", desc := "()I" } : Jvm.MethodName) jdk_42_method_78_code (2 : Nat) (Option.some Jvm.ClassFile.FieldType.int)).before args0 about1 = true := code_word (m := ⟨10, 2⟩) (meth := k10m2) (c := k10c2) (by decide +kernel) rfl rfl rfl (by decide +kernel)
set_option maxRecDepth 65536 in
theorem w_c22 : (Jvm.Cond.code ({ cls := "java/lang/String", name := "isLatin1", desc := "()Z" } : Jvm.MethodName) jdk_42_method_154_code (1 : Nat) (Option.some Jvm.ClassFile.FieldType.boolean)).before args0 about1 = true := code_word (m := ⟨10, 5⟩) (meth := k10m5) (c := k10c5) (by decide +kernel) rfl rfl rfl (by decide +kernel)
set_option maxRecDepth 65536 in
theorem w_c23 : (Jvm.Cond.code ({ cls := "java/lang/StringLatin1", name := "hashCode", desc := "([B)I" } : Jvm.MethodName) jdk_43_method_21_code (1 : Nat) (Option.some Jvm.ClassFile.FieldType.int)).before args0 about1 = true := code_word (m := ⟨11, 3⟩) (meth := k11m3) (c := k11c3) (by decide +kernel) rfl rfl rfl (by decide +kernel)
set_option maxRecDepth 65536 in
theorem w_c24 : (Jvm.Cond.code ({ cls := "java/util/HashMap", name := "putVal", desc := "(ILjava/lang/Object;Ljava/lang/Object;ZZ)Ljava/lang/Object;" } : Jvm.MethodName) jdk_69_method_16_code (13 : Nat) (Option.some (Jvm.ClassFile.FieldType.object "java/lang/Object"))).before args0 about1 = true := code_word (m := ⟨18, 4⟩) (meth := k18m4) (c := k18c4) (by decide +kernel) rfl rfl rfl (by decide +kernel)
set_option maxRecDepth 65536 in
theorem w_c25 : (Jvm.Cond.code ({ cls := "java/util/HashMap", name := "resize", desc := "()[Ljava/util/HashMap$Node;" } : Jvm.MethodName) jdk_69_method_17_code (14 : Nat) (Option.some (Jvm.ClassFile.FieldType.array (Jvm.ClassFile.FieldType.object "java/util/HashMap$Node")))).before args0 about1 = true := code_word (m := ⟨18, 5⟩) (meth := k18m5) (c := k18c5) (by decide +kernel) rfl rfl rfl (by decide +kernel)
set_option maxRecDepth 65536 in
theorem w_c26 : (Jvm.Cond.code ({ cls := "java/util/LinkedHashMap", name := "newNode", desc := "(ILjava/lang/Object;Ljava/lang/Object;Ljava/util/HashMap$Node;)Ljava/util/HashMap$Node;" } : Jvm.MethodName) jdk_94_method_4_code (6 : Nat) (Option.some (Jvm.ClassFile.FieldType.object "java/util/HashMap$Node"))).before args0 about1 = true := code_word (m := ⟨20, 1⟩) (meth := k20m1) (c := k20c1) (by decide +kernel) rfl rfl rfl (by decide +kernel)
set_option maxRecDepth 65536 in
theorem w_c27 : (Jvm.Cond.code ({ cls := "java/util/LinkedHashMap$Entry", name := "<init>", desc := "(ILjava/lang/Object;Ljava/lang/Object;Ljava/util/HashMap$Node;)V" } : Jvm.MethodName) jdk_83_method_1_code (5 : Nat) (Option.none : Option Jvm.ClassFile.FieldType)).before args0 about1 = true := code_word (m := ⟨25, 0⟩) (meth := k25m0) (c := k25c0) (by decide +kernel) rfl rfl rfl (by decide +kernel)
set_option maxRecDepth 65536 in
theorem w_c28 : (Jvm.Cond.code ({ cls := "java/util/HashMap$Node", name := "<init>", desc := "(ILjava/lang/Object;Ljava/lang/Object;Ljava/util/HashMap$Node;)V" } : Jvm.MethodName) jdk_70_method_1_code (5 : Nat) (Option.none : Option Jvm.ClassFile.FieldType)).before args0 about1 = true := code_word (m := ⟨24, 0⟩) (meth := k24m0) (c := k24c0) (by decide +kernel) rfl rfl rfl (by decide +kernel)
set_option maxRecDepth 65536 in
theorem w_c29 : (Jvm.Cond.code ({ cls := "java/util/LinkedHashMap", name := "linkNodeAtEnd", desc := "(Ljava/util/LinkedHashMap$Entry;)V" } : Jvm.MethodName) jdk_94_method_1_code (3 : Nat) (Option.none : Option Jvm.ClassFile.FieldType)).before args0 about1 = true := code_word (m := ⟨20, 0⟩) (meth := k20m0) (c := k20c0) (by decide +kernel) rfl rfl rfl (by decide +kernel)
set_option maxRecDepth 65536 in
theorem w_c30 : (Jvm.Cond.code ({ cls := "java/util/LinkedHashMap", name := "afterNodeInsertion", desc := "(Z)V" } : Jvm.MethodName) jdk_94_method_9_code (4 : Nat) (Option.none : Option Jvm.ClassFile.FieldType)).before args0 about1 = true := code_word (m := ⟨20, 2⟩) (meth := k20m2) (c := k20c2) (by decide +kernel) rfl rfl rfl (by decide +kernel)
set_option maxRecDepth 65536 in
theorem w_c31 : (Jvm.Cond.code ({ cls := "java/util/LinkedHashMap", name := "removeEldestEntry", desc := "(Ljava/util/Map$Entry;)Z" } : Jvm.MethodName) jdk_94_method_23_code (2 : Nat) (Option.some Jvm.ClassFile.FieldType.boolean)).before args0 about1 = true := code_word (m := ⟨20, 5⟩) (meth := k20m5) (c := k20c5) (by decide +kernel) rfl rfl rfl (by decide +kernel)
set_option maxRecDepth 65536 in
theorem w_c32 : (Jvm.Cond.code ({ cls := "java/util/Collections", name := "unmodifiableMap", desc := "(Ljava/util/Map;)Ljava/util/Map;" } : Jvm.MethodName) jdk_79_method_36_code (1 : Nat) (Option.some (Jvm.ClassFile.FieldType.object "java/util/Map"))).before args0 about1 = true := code_word (m := ⟨26, 1⟩) (meth := k26m1) (c := k26c1) (by decide +kernel) rfl rfl rfl (by decide +kernel)
set_option maxRecDepth 65536 in
theorem w_c33 : (Jvm.Cond.code ({ cls := "java/util/Collections$UnmodifiableMap", name := "<init>", desc := "(Ljava/util/Map;)V" } : Jvm.MethodName) jdk_2500_method_1_code (2 : Nat) (Option.none : Option Jvm.ClassFile.FieldType)).before args0 about1 = true := code_word (m := ⟨27, 0⟩) (meth := k27m0) (c := k27c0) (by decide +kernel) rfl rfl rfl (by decide +kernel)
set_option maxRecDepth 65536 in
theorem w_c34 : (Jvm.Cond.code ({ cls := "com/example/bowline/bowline/sdk/TaskResult", name := "ok", desc := "()Z" } : Jvm.MethodName) prog_19_method_5_code (1 : Nat) (Option.some Jvm.ClassFile.FieldType.boolean)).before args0 about1 = true := code_word (m := ⟨2, 3⟩) (meth := k2m3) (c := k2c3) (by decide +kernel) rfl rfl rfl (by decide +kernel)
set_option maxRecDepth 65536 in
theorem w_c35 : (Jvm.Cond.code ({ cls := "com/example/bowline/bowline/sdk/TaskResult", name := "errorMessage", desc := "()Ljava/lang/String;" } : Jvm.MethodName) prog_19_method_6_code (1 : Nat) (Option.some (Jvm.ClassFile.FieldType.object "java/lang/String"))).before args0 about1 = true := code_word (m := ⟨2, 4⟩) (meth := k2m4) (c := k2c4) (by decide +kernel) rfl rfl rfl (by decide +kernel)
set_option maxRecDepth 65536 in
theorem w_c36 : (Jvm.Cond.code ({ cls := "java/lang/Integer", name := "<init>", desc := "(I)V" } : Jvm.MethodName) jdk_33_method_23_code (2 : Nat) (Option.none : Option Jvm.ClassFile.FieldType)).before args0 about1 = true := code_word (m := ⟨13, 1⟩) (meth := k13m1) (c := k13c1) (by decide +kernel) rfl rfl rfl (by decide +kernel)
set_option maxRecDepth 65536 in
theorem w_c37 : (Jvm.Cond.code ({ cls := "java/lang/Number", name := "<init>", desc := "()V" } : Jvm.MethodName) jdk_18_method_1_code (1 : Nat) (Option.none : Option Jvm.ClassFile.FieldType)).before args0 about1 = true := code_word (m := ⟨12, 0⟩) (meth := k12m0) (c := k12c0) (by decide +kernel) rfl rfl rfl (by decide +kernel)
def codes1 : List Jvm.Cond := [Jvm.Cond.code x code maxLocals ret, Jvm.Cond.code ({ cls := "com/example/bowline/bowline/sdk/TaskResult", name := "success", desc := "()Lcom/example/bowline/bowline/sdk/TaskResult;" } : Jvm.MethodName) prog_19_method_2_code (0 : Nat) (Option.some (Jvm.ClassFile.FieldType.object "com/example/bowline/bowline/sdk/TaskResult")), Jvm.Cond.code ({ cls := "java/util/Map", name := "of", desc := "()Ljava/util/Map;" } : Jvm.MethodName) jdk_72_method_26_code (0 : Nat) (Option.some (Jvm.ClassFile.FieldType.object "java/util/Map")), Jvm.Cond.code ({ cls := "com/example/bowline/bowline/sdk/TaskResult", name := "<init>", desc := "(Ljava/lang/String;Ljava/util/Map;)V" } : Jvm.MethodName) prog_19_method_1_code (3 : Nat) (Option.none : Option Jvm.ClassFile.FieldType), Jvm.Cond.code ({ cls := "java/lang/Object", name := "<init>", desc := "()V" } : Jvm.MethodName) object_method_1_code (1 : Nat) (Option.none : Option Jvm.ClassFile.FieldType), Jvm.Cond.code ({ cls := "java/lang/String", name := "valueOf", desc := "(C)Ljava/lang/String;" } : Jvm.MethodName) jdk_42_method_139_code (1 : Nat) (Option.some (Jvm.ClassFile.FieldType.object "java/lang/String")), Jvm.Cond.code ({ cls := "java/lang/StringLatin1", name := "canEncode", desc := "(C)Z" } : Jvm.MethodName) jdk_43_method_3_code (1 : Nat) (Option.some Jvm.ClassFile.FieldType.boolean), Jvm.Cond.code ({ cls := "java/lang/StringLatin1", name := "toBytes", desc := "(C)[B" } : Jvm.MethodName) jdk_43_method_46_code (1 : Nat) (Option.some (Jvm.ClassFile.FieldType.array Jvm.ClassFile.FieldType.byte)), Jvm.Cond.code ({ cls := "java/lang/String", name := "<init>", desc := "([BB)V" } : Jvm.MethodName) jdk_42_method_151_code (3 : Nat) (Option.none : Option Jvm.ClassFile.FieldType), Jvm.Cond.code ({ cls := "java/lang/Integer", name := "valueOf", desc := "(I)Ljava/lang/Integer;" } : Jvm.MethodName) jdk_33_method_22_code (1 : Nat) (Option.some (Jvm.ClassFile.FieldType.object "java/lang/Integer")), Jvm.Cond.code ({ cls := "com/example/bowline/bowline/sdk/TaskResult", name := "value", desc := "(Ljava/lang/String;Ljava/lang/Object;)Lcom/example/bowline/bowline/sdk/TaskResult;" } : Jvm.MethodName) prog_19_method_4_code (4 : Nat) (Option.some (Jvm.ClassFile.FieldType.object "com/example/bowline/bowline/sdk/TaskResult")), Jvm.Cond.code ({ cls := "java/util/Objects", name := "requireNonNull", desc := "(Ljava/lang/Object;Ljava/lang/String;)Ljava/lang/Object;" } : Jvm.MethodName) jdk_31_method_11_code (2 : Nat) (Option.some (Jvm.ClassFile.FieldType.object "java/lang/Object")), Jvm.Cond.code ({ cls := "java/lang/String", name := "equals", desc := "(Ljava/lang/Object;)Z" } : Jvm.MethodName) jdk_42_method_66_code (3 : Nat) (Option.some Jvm.ClassFile.FieldType.boolean), Jvm.Cond.code ({ cls := "java/lang/StringLatin1", name := "equals", desc := "([B[B)Z" } : Jvm.MethodName) jdk_43_method_13_code (3 : Nat) (Option.some Jvm.ClassFile.FieldType.boolean), Jvm.Cond.code ({ cls := "java/util/LinkedHashMap", name := "<init>", desc := "(Ljava/util/Map;)V" } : Jvm.MethodName) jdk_94_method_17_code (2 : Nat) (Option.none : Option Jvm.ClassFile.FieldType), Jvm.Cond.code ({ cls := "java/util/HashMap", name := "<init>", desc := "()V" } : Jvm.MethodName) jdk_69_method_7_code (1 : Nat) (Option.none : Option Jvm.ClassFile.FieldType), Jvm.Cond.code ({ cls := "java/util/AbstractMap", name := "<init>", desc := "()V" } : Jvm.MethodName) jdk_71_method_1_code (1 : Nat) (Option.none : Option Jvm.ClassFile.FieldType), Jvm.Cond.code ({ cls := "java/util/HashMap", name := "putMapEntries", desc := "(Ljava/util/Map;Z)V" } : Jvm.MethodName) jdk_69_method_9_code (8 : Nat) (Option.none : Option Jvm.ClassFile.FieldType), Jvm.Cond.code ({ cls := "java/util/ImmutableCollections$MapN", name := "size", desc := "()I" } : Jvm.MethodName) jdk_2605_method_6_code (1 : Nat) (Option.some Jvm.ClassFile.FieldType.int), Jvm.Cond.code ({ cls := "java/util/HashMap", name := "put", desc := "(Ljava/lang/Object;Ljava/lang/Object;)Ljava/lang/Object;" } : Jvm.MethodName) jdk_69_method_15_code (3 : Nat) (Option.some (Jvm.ClassFile.FieldType.object "java/lang/Object")), Jvm.Cond.code ({ cls := "java/util/HashMap", name := "hash", desc := "(Ljava/lang/Object;)I" } : Jvm.MethodName) jdk_69_method_1_code (2 : Nat) (Option.some Jvm.ClassFile.FieldType.int), Jvm.Cond.code ({ cls := "java/lang/String", name := "hashCode", desc := "()I" } : Jvm.MethodName) jdk_42_method_78_code (2 : Nat) (Option.some Jvm.ClassFile.FieldType.int), Jvm.Cond.code ({ cls := "java/lang/String", name := "isLatin1", desc := "()Z" } : Jvm.MethodName) jdk_42_method_154_code (1 : Nat) (Option.some Jvm.ClassFile.FieldType.boolean), Jvm.Cond.code ({ cls := "java/lang/StringLatin1", name := "hashCode", desc := "([B)I" } : Jvm.MethodName) jdk_43_method_21_code (1 : Nat) (Option.some Jvm.ClassFile.FieldType.int), Jvm.Cond.code ({ cls := "java/util/HashMap", name := "putVal", desc := "(ILjava/lang/Object;Ljava/lang/Object;ZZ)Ljava/lang/Object;" } : Jvm.MethodName) jdk_69_method_16_code (13 : Nat) (Option.some (Jvm.ClassFile.FieldType.object "java/lang/Object")), Jvm.Cond.code ({ cls := "java/util/HashMap", name := "resize", desc := "()[Ljava/util/HashMap$Node;" } : Jvm.MethodName) jdk_69_method_17_code (14 : Nat) (Option.some (Jvm.ClassFile.FieldType.array (Jvm.ClassFile.FieldType.object "java/util/HashMap$Node"))), Jvm.Cond.code ({ cls := "java/util/LinkedHashMap", name := "newNode", desc := "(ILjava/lang/Object;Ljava/lang/Object;Ljava/util/HashMap$Node;)Ljava/util/HashMap$Node;" } : Jvm.MethodName) jdk_94_method_4_code (6 : Nat) (Option.some (Jvm.ClassFile.FieldType.object "java/util/HashMap$Node")), Jvm.Cond.code ({ cls := "java/util/LinkedHashMap$Entry", name := "<init>", desc := "(ILjava/lang/Object;Ljava/lang/Object;Ljava/util/HashMap$Node;)V" } : Jvm.MethodName) jdk_83_method_1_code (5 : Nat) (Option.none : Option Jvm.ClassFile.FieldType), Jvm.Cond.code ({ cls := "java/util/HashMap$Node", name := "<init>", desc := "(ILjava/lang/Object;Ljava/lang/Object;Ljava/util/HashMap$Node;)V" } : Jvm.MethodName) jdk_70_method_1_code (5 : Nat) (Option.none : Option Jvm.ClassFile.FieldType), Jvm.Cond.code ({ cls := "java/util/LinkedHashMap", name := "linkNodeAtEnd", desc := "(Ljava/util/LinkedHashMap$Entry;)V" } : Jvm.MethodName) jdk_94_method_1_code (3 : Nat) (Option.none : Option Jvm.ClassFile.FieldType), Jvm.Cond.code ({ cls := "java/util/LinkedHashMap", name := "afterNodeInsertion", desc := "(Z)V" } : Jvm.MethodName) jdk_94_method_9_code (4 : Nat) (Option.none : Option Jvm.ClassFile.FieldType), Jvm.Cond.code ({ cls := "java/util/LinkedHashMap", name := "removeEldestEntry", desc := "(Ljava/util/Map$Entry;)Z" } : Jvm.MethodName) jdk_94_method_23_code (2 : Nat) (Option.some Jvm.ClassFile.FieldType.boolean), Jvm.Cond.code ({ cls := "java/util/Collections", name := "unmodifiableMap", desc := "(Ljava/util/Map;)Ljava/util/Map;" } : Jvm.MethodName) jdk_79_method_36_code (1 : Nat) (Option.some (Jvm.ClassFile.FieldType.object "java/util/Map")), Jvm.Cond.code ({ cls := "java/util/Collections$UnmodifiableMap", name := "<init>", desc := "(Ljava/util/Map;)V" } : Jvm.MethodName) jdk_2500_method_1_code (2 : Nat) (Option.none : Option Jvm.ClassFile.FieldType), Jvm.Cond.code ({ cls := "com/example/bowline/bowline/sdk/TaskResult", name := "ok", desc := "()Z" } : Jvm.MethodName) prog_19_method_5_code (1 : Nat) (Option.some Jvm.ClassFile.FieldType.boolean), Jvm.Cond.code ({ cls := "com/example/bowline/bowline/sdk/TaskResult", name := "errorMessage", desc := "()Ljava/lang/String;" } : Jvm.MethodName) prog_19_method_6_code (1 : Nat) (Option.some (Jvm.ClassFile.FieldType.object "java/lang/String")), Jvm.Cond.code ({ cls := "java/lang/Integer", name := "<init>", desc := "(I)V" } : Jvm.MethodName) jdk_33_method_23_code (2 : Nat) (Option.none : Option Jvm.ClassFile.FieldType), Jvm.Cond.code ({ cls := "java/lang/Number", name := "<init>", desc := "()V" } : Jvm.MethodName) jdk_18_method_1_code (1 : Nat) (Option.none : Option Jvm.ClassFile.FieldType)]
set_option maxRecDepth 65536 in
theorem codes_eq : words1.filter isCode = codes1 := rfl
theorem w_codes : ∀ c ∈ words1.filter isCode, c.before args0 about1 = true := by
  rw [codes_eq]
  intro c hc
  simp only [codes1, List.mem_cons, List.not_mem_nil, or_false] at hc
  rcases hc with rfl | rfl | rfl | rfl | rfl | rfl | rfl | rfl | rfl | rfl | rfl | rfl | rfl | rfl | rfl | rfl | rfl | rfl | rfl | rfl | rfl | rfl | rfl | rfl | rfl | rfl | rfl | rfl | rfl | rfl | rfl | rfl | rfl | rfl | rfl | rfl | rfl | rfl
  · exact w_c0
  · exact w_c1
  · exact w_c2
  · exact w_c3
  · exact w_c4
  · exact w_c5
  · exact w_c6
  · exact w_c7
  · exact w_c8
  · exact w_c9
  · exact w_c10
  · exact w_c11
  · exact w_c12
  · exact w_c13
  · exact w_c14
  · exact w_c15
  · exact w_c16
  · exact w_c17
  · exact w_c18
  · exact w_c19
  · exact w_c20
  · exact w_c21
  · exact w_c22
  · exact w_c23
  · exact w_c24
  · exact w_c25
  · exact w_c26
  · exact w_c27
  · exact w_c28
  · exact w_c29
  · exact w_c30
  · exact w_c31
  · exact w_c32
  · exact w_c33
  · exact w_c34
  · exact w_c35
  · exact w_c36
  · exact w_c37
set_option maxRecDepth 65536 in
theorem w_t1 : (words1.take 24).all (fun c => isCode c || c.before args0 about1) = true := by decide +kernel
set_option maxRecDepth 65536 in
theorem w_t2 : ((words1.drop 24).take 24).all (fun c => isCode c || c.before args0 about1) = true := by decide +kernel
set_option maxRecDepth 65536 in
theorem w_t3 : (((words1.drop 24).drop 24).take 24).all (fun c => isCode c || c.before args0 about1) = true := by decide +kernel
set_option maxRecDepth 65536 in
theorem w_t4 : ((((words1.drop 24).drop 24).drop 24).take 24).all (fun c => isCode c || c.before args0 about1) = true := by decide +kernel
set_option maxRecDepth 65536 in
theorem w_t5 : (((((words1.drop 24).drop 24).drop 24).drop 24).take 24).all (fun c => isCode c || c.before args0 about1) = true := by decide +kernel
set_option maxRecDepth 65536 in
theorem w_t6 : ((((((words1.drop 24).drop 24).drop 24).drop 24).drop 24).take 24).all (fun c => isCode c || c.before args0 about1) = true := by decide +kernel
set_option maxRecDepth 65536 in
theorem w_t7 : (((((((words1.drop 24).drop 24).drop 24).drop 24).drop 24).drop 24).take 24).all (fun c => isCode c || c.before args0 about1) = true := by decide +kernel
set_option maxRecDepth 65536 in
theorem w_t8 : ((((((((words1.drop 24).drop 24).drop 24).drop 24).drop 24).drop 24).drop 24).take 24).all (fun c => isCode c || c.before args0 about1) = true := by decide +kernel
set_option maxRecDepth 65536 in
theorem w_t9 : (((((((((words1.drop 24).drop 24).drop 24).drop 24).drop 24).drop 24).drop 24).drop 24).take 24).all (fun c => isCode c || c.before args0 about1) = true := by decide +kernel
set_option maxRecDepth 65536 in
theorem w_t10 : ((((((((((words1.drop 24).drop 24).drop 24).drop 24).drop 24).drop 24).drop 24).drop 24).drop 24).take 24).all (fun c => isCode c || c.before args0 about1) = true := by decide +kernel
set_option maxRecDepth 65536 in
theorem w_t11 : (((((((((((words1.drop 24).drop 24).drop 24).drop 24).drop 24).drop 24).drop 24).drop 24).drop 24).drop 24).take 24).all (fun c => isCode c || c.before args0 about1) = true := by decide +kernel
set_option maxRecDepth 65536 in
theorem w_t12 : (((((((((((words1.drop 24).drop 24).drop 24).drop 24).drop 24).drop 24).drop 24).drop 24).drop 24).drop 24).drop 24).all (fun c => isCode c || c.before args0 about1) = true := by decide +kernel
theorem w_tables : (allAtoms (Jvm.Cond.code x code maxLocals ret :: tables_1)).before args0 about1 = true := by
  rw [allAtoms_all]
  show words1.all (fun c => c.before args0 about1) = true
  refine all_split ?_ w_codes
  rw [← List.take_append_drop 24 words1, List.all_append, w_t1, ← List.take_append_drop 24 (words1.drop 24), List.all_append, w_t2, ← List.take_append_drop 24 ((words1.drop 24).drop 24), List.all_append, w_t3, ← List.take_append_drop 24 (((words1.drop 24).drop 24).drop 24), List.all_append, w_t4, ← List.take_append_drop 24 ((((words1.drop 24).drop 24).drop 24).drop 24), List.all_append, w_t5, ← List.take_append_drop 24 (((((words1.drop 24).drop 24).drop 24).drop 24).drop 24), List.all_append, w_t6, ← List.take_append_drop 24 ((((((words1.drop 24).drop 24).drop 24).drop 24).drop 24).drop 24), List.all_append, w_t7, ← List.take_append_drop 24 (((((((words1.drop 24).drop 24).drop 24).drop 24).drop 24).drop 24).drop 24), List.all_append, w_t8, ← List.take_append_drop 24 ((((((((words1.drop 24).drop 24).drop 24).drop 24).drop 24).drop 24).drop 24).drop 24), List.all_append, w_t9, ← List.take_append_drop 24 (((((((((words1.drop 24).drop 24).drop 24).drop 24).drop 24).drop 24).drop 24).drop 24).drop 24), List.all_append, w_t10, ← List.take_append_drop 24 ((((((((((words1.drop 24).drop 24).drop 24).drop 24).drop 24).drop 24).drop 24).drop 24).drop 24).drop 24), List.all_append, w_t11, w_t12]
  rfl
set_option maxRecDepth 65536 in
theorem w_rest : rest_1_c.before args0 about1 = true := by decide +kernel
set_option maxRecDepth 65536 in
theorem w_case : (Jvm.Cond.and given_1 narrow_1).before args0 about1 = true := by decide +kernel
set_option maxRecDepth 65536 in
theorem w_consts : constsHeld consts_1 about1 := Jvm.Lit.constsHeldB_iff.mp (by decide +kernel)
theorem w_applies : (headSpec (Jvm.Cond.code x code maxLocals ret :: tables_1) room_1).applies x e0.platform about1 = true :=
  (Spec.applies_iff w_frames).mpr ⟨w_running, w_runnable, w_alone, w_named, w_hears, w_ripe, w_room, w_tables⟩
theorem atStart : AtStart classFile x code maxLocals ret World_1 tables_1 room_1 Calls_1 rest_1 Pre_1 launch0 p0 e0 about1 theMethod args0 below0 :=
  ⟨lists_1, trivial, launch0.admits_env _ _ _, launch0.least_env, fairChoices_fair.cas, fairChoices_fair.clock, w_frames, w_args, w_heap, w_applies, ⟨(by first | exact ⟨20, k20, 4, by decide +kernel, rfl, rfl⟩ | exact ⟨20, k20, 4, by decide +kernel, rfl, rfl, _, rfl, rfl⟩), ⟨(by first | exact ⟨27, k27, 5, by decide +kernel, rfl, rfl⟩ | exact ⟨27, k27, 5, by decide +kernel, rfl, rfl, _, rfl, rfl⟩), ⟨w_consts, trivial⟩⟩⟩, w_rest, w_case⟩
end start1
theorem witness_1 : WitnessClaimed_1 := ⟨start1.p0, start1.e0, start1.about1, start1.theMethod, start1.args0, start1.below0, start1.atStart⟩
end Jvm.Pilot.@@N@@
