import JvmDerived
import JvmDerived.Pilot.@@N@@Statement
import JvmDerived.Pilot.@@N@@Code
set_option linter.unusedVariables false
set_option linter.unusedSimpArgs false
set_option maxRecDepth 65536
set_option maxHeartbeats 400000000
@@BLOCK:NumsL.lean.txt@@
namespace Jvm.Pilot.@@N@@
open Jvm Jvm.ClassFile Sem Op Lib Jvm.Free Jvm.Stand Jvm.LawKit Jvm.RoadKit Bundle Jvm.Pilot.@@N@@.Jvm.D
abbrev cc (x : Int32) : Int32 := x.toUInt32.toUInt16.toUInt32.toInt32
abbrev bb (x : Int32) : Int32 := x.toInt8.toInt32
abbrev PayOf (F : State → Outcome → State → List Loc → Nat → Nat → Prop) (l : Launch) (Z : State) (y : MethodName) (ws : List Jvm.Cond) (bytes : ByteArray) (ml : Nat) (rt : Option FieldType) (as' : Array Value) (h0 : Heap) (rm : Room) (Q : Option Value → Heap → List Loc → Prop) : Prop :=
  MetFree l y (head1 (Jvm.Cond.code y bytes ml rt :: ws) rm) (fun a U => a = as' ∧ Z.Warmed39 U.vm ∧ U.heap = h0) (fun _ _ _ _ _ => True) (fun _ U o U' => ∃ v L, o = .returned v ∧ Q v U'.heap L ∧ F U o U' L rm.cells rm.slots)
abbrev Pay := PayOf FrameEnd
abbrev PayW := PayOf ReturnedEndW
theorem own_body {F : State → Outcome → State → List Loc → Nat → Nat → Prop} {l : Launch} {Z : State} {y : MethodName} {ws : List Jvm.Cond} {bytes : ByteArray} {ml : Nat} {rt : Option FieldType} {as' : Array Value} {h0 : Heap} {rm : Room} {Q : Option Value → Heap → List Loc → Prop} (hp : plainFor y = true) {L0 : Array Slot} (hent : ∀ m, entryFrame m as' ml = mkF m 0 L0 [])
    (body : ∀ (p : Program) (e : Env) (s : State) (m : MethodId) (below : List Frame) (meth : Method) (c : Code) (s₁ : State), meth.sig.returnType = rt → meth.locks = false → p.tables.exec = Jvm.exec → c.code = bytes → c.maxLocals = ml → Z.Warmed39 s.vm → s.vm.findClass y.cls = some m.cls → meth.name = y.name → Stand p l e rm s m as' below meth c s₁ [] 0 0 → s₁.heap = h0 →
      ∃ s₂ o, Steps p.tables e below (s₁.setTop (mkF m 0 L0 [])) s₂ ∧ s₂.status = .running ∧ Ended s₂ below o ∧ ∃ v L, o = .returned v ∧ Q v s₂.heap L ∧ F s o s₂ L rm.cells rm.slots) : PayOf F l Z y ws bytes ml rt as' h0 rm Q := by
  refine MetFree.of_bodySF hp hisR ?_
  intro p e s m args below meth c s₁ Bd hml hP hK
  obtain ⟨rfl, hZ, hh⟩ := hP
  obtain ⟨s₂, o, st, r⟩ := body p e s m below meth c s₁ Bd.returns Bd.notSynchronized Bd.exec Bd.bytes hml hZ (findClass_of_methodNamed Bd.named) (name_of_methodNamed Bd.named Bd.method).1 (Stand.of_body Bd) (by rw [← hh, Bd.state]; rfl)
  exact ⟨s₂, o, castTop (hent m) st, r⟩
abbrev HW (Z : State) (a0 : Array Value) : Prop := ∀ d ∈ tables_1, d.before a0 Z = true
abbrev vi (x : Int32) : Slot := .val (.int x)
abbrev vl (x : Int64) : Slot := .val (.long x)
abbrev va (x : Addr) : Slot := .val (.ref x)
abbrev uu : Slot := .unset
abbrev ss : Slot := .second
theorem ww {Z : State} {a0 : Array Value} (hw : ∀ d ∈ tables_1, d.before a0 Z = true) (i : Nat) {d : Jvm.Cond} (h : tables_1[i]? = some d) : d.before a0 Z = true := hw _ (List.mem_of_getElem? h)
theorem own_old {Z : State} {n0 : Nat} {h : Heap} (O : Old Z n0 h) : n0 ≤ h.size := O.1 ▸ O.2.1
theorem own_lc_ltT {x y : Int64} (h : x < y) : ifCond.holds .lt (lcmpW x y) = true ∧ ifCond.holds .ge (lcmpW x y) = false := by
  have q : lcmpW x y < 0 := by rw [lcW]; exact (lc_lt x y).mpr h
  exact ⟨(if0 _ _).trans (tlt q).1, (if0 _ _).trans (tlt q).2.1⟩
theorem own_lc_ltF {x y : Int64} (h : ¬ x < y) : ifCond.holds .lt (lcmpW x y) = false ∧ ifCond.holds .ge (lcmpW x y) = true := by
  have q : ¬ lcmpW x y < 0 := by rw [lcW]; exact fun z => h ((lc_lt x y).mp z)
  exact ⟨(if0 _ _).trans (flt q).1, (if0 _ _).trans (flt q).2.1⟩
theorem own_lc_gtT {x y : Int64} (h : y < x) : ifCond.holds .gt (lcmpW x y) = true ∧ ifCond.holds .le (lcmpW x y) = false := by
  have q : 0 < lcmpW x y := by rw [lcW]; exact (lc_gt x y).mpr h
  exact ⟨(if0 _ _).trans (tlt q).2.2.1, (if0 _ _).trans (tlt q).2.2.2⟩
theorem own_lc_gtF {x y : Int64} (h : ¬ y < x) : ifCond.holds .gt (lcmpW x y) = false ∧ ifCond.holds .le (lcmpW x y) = true := by
  have q : ¬ 0 < lcmpW x y := by rw [lcW]; exact fun z => h ((lc_gt x y).mp z)
  exact ⟨(if0 _ _).trans (flt q).2.2.1, (if0 _ _).trans (flt q).2.2.2⟩
theorem own_lc_eqT {x y : Int64} (h : x = y) : ifCond.holds .eq (lcmpW x y) = true ∧ ifCond.holds .ne (lcmpW x y) = false := by
  have q : lcmpW x y = 0 := by rw [lcW]; exact (lc_eq x y).mpr h
  exact ⟨(if0 _ _).trans (teq q).1, (if0 _ _).trans (teq q).2⟩
theorem own_lc_eqF {x y : Int64} (h : ¬ x = y) : ifCond.holds .eq (lcmpW x y) = false ∧ ifCond.holds .ne (lcmpW x y) = true := by
  have q : ¬ lcmpW x y = 0 := by rw [lcW]; exact fun z => h ((lc_eq x y).mp z)
  exact ⟨(if0 _ _).trans (feq q).1, (if0 _ _).trans (feq q).2⟩
theorem own_selp {y : MethodName} {s : State} {args : Array Value} {n : Nat} (hy : y.cls ≠ "java/lang/invoke/MethodHandle" ∧ y.cls ≠ "java/lang/invoke/VarHandle") (hins : (Jvm.Cond.instantiable y.cls n).before args s = true) (hpriv : (Jvm.Cond.privateMethod y).before args s = true) (hinst : (Jvm.Cond.instanceMethod y).before args s = true) : (Jvm.Cond.selects y.cls y y).before args s = true := by
  obtain ⟨c, k, hc, hk, -, hniab, -, -⟩ := Cond.instantiable_spec hins
  exact selects_self_of_private hc hk (Bool.or_eq_false_iff.mp hniab).1 (Cond.privateMethod_at hpriv) hinst hy
theorem own_rem (x k : Int32) (n : Int) (hk : k.toInt = n) (hx : 0 ≤ x.toInt) : (x % k).toInt = x.toInt % n := by
  rw [Int32.toInt_mod, hk, Int.tmod_eq_emod_of_nonneg hx]
theorem own_eqI {t : Term} {k : Int32} {args : Array Value} {Z : State} (h : (Jvm.Cond.eq t (Jvm.Term.int k)).value args Z none Z [] = some true) : t.eval args Z none [] Z = some (.int k) := by
  simp only [Cond.value, Term.eval] at h
  cases ht : t.eval args Z none [] Z with
  | none => simp [ht] at h
  | some v => cases v <;> simp [ht] at h ⊢; exact h
theorem own_ne0 {t : Term} {x : Int32} {args : Array Value} {Z : State} (e : t.eval args Z none [] Z = some (.int x)) (h : (Jvm.Cond.not (Jvm.Cond.eq t (Jvm.Term.int (0 : Int32)))).value args Z none Z [] = some true) : ¬ (x = (0 : Int32)) := by
  intro q
  subst q
  simp [Cond.value, Term.eval, e] at h
theorem own_arvStart {ty : FieldType} {Z : State} {args : Array Value} {t : Term} {a : Addr} {cl : Cell} {z : Int32} {vs : List Value} {dv : Value} (hf : Fit Z) (ev : t.eval args Z none [] Z = some (.ref a)) (A : Arr Z Z.heap a cl ty) (hl : (Term.length t).eval args Z none [] Z = some (.int z)) (hz : ¬ z < 0) (hn : z.toNatClampNeg = vs.length) (H : HasL cl 0 vs) : Arv Z Z.heap a cl.cls ty z vs dv := by
  have hq : cl.slots.size < 2 ^ 31 ∧ cl.slots.size.toInt32 = z := by
    have e := A.fin (Vm.Alike.refl _)
    simp only [Term.eval, ev, e, Option.bind_eq_bind, Option.bind_some] at hl
    by_cases q : cl.slots.size < 2 ^ 31
    · rw [if_pos q] at hl; exact ⟨q, Value.int.inj (Option.some.inj hl)⟩
    · rw [if_neg q] at hl; cases hl
  exact Arv.start hf A hq.1 hq.2 hz hn H
abbrev own_lr (x y : Int64) : Int64 := x - (x / y) * y
section M1
variable {p : Program} {l : Launch} {e : Env} {R : Room} {s : State} {m : MethodId} {args : Array Value} {below : List Frame} {meth : Method} {c : Code} {T : State} {locs : List Loc} {cells slots : Nat} {Z : State} {a0 : Array Value} {h h' : Heap} {a b : Addr} {n j : Int32} {sl : Nat} {v : Value} {ws : List Addr} {hl : List (Int32 × Value)}
/-- a byte array of length n, whatever it holds -/
def BA (Z : State) (h : Heap) (a : Addr) (n : Int32) : Prop := ∃ (k : ClassId) (vs : List Value), Arv Z h a k .byte n vs (.int 0)
theorem BA.lt (F : BA Z h a n) : a < h.size := by obtain ⟨_, _, F⟩ := F; exact F.lt
theorem BA.ext (F : BA Z h a n) (E : Ext h h') : BA Z h' a n := by obtain ⟨k, vs, F⟩ := F; exact ⟨k, vs, F.ext E⟩
theorem BA.other (F : BA Z h b n) (W : Wr h h' a sl v) (q : b ≠ a) : BA Z h' b n := by obtain ⟨k, vs, F⟩ := F; exact ⟨k, vs, F.other W q⟩
theorem BA.keep (F : BA Z h a n) (K : Keep h h' ws) (q : a ∉ ws) : BA Z h' a n := by obtain ⟨k, vs, F⟩ := F; exact ⟨k, vs, F.keep K q⟩
theorem BA.new {k : ClassId} (A : Arr Z h a (newA k .byte n) .byte) (q : ¬ n < 0) : BA Z h a n := ⟨k, [], Arv.new A q⟩
/-- a long array of length n, whatever it holds -/
def LA (Z : State) (h : Heap) (a : Addr) (n : Int32) : Prop := ∃ c : Cell, Arr Z h a c .long ∧ c.slots.size = n.toNatClampNeg ∧ ¬ n < 0 ∧ ∀ i, i < c.slots.size → ∃ x : Int64, c.slots[i]? = some (.long x)
theorem LA.lt (F : LA Z h a n) : a < h.size := by obtain ⟨c, A, -⟩ := F; exact A.lt
theorem LA.ext (F : LA Z h a n) (E : Ext h h') : LA Z h' a n := by obtain ⟨c, A, r⟩ := F; exact ⟨c, A.ext E, r⟩
theorem LA.other (F : LA Z h b n) (W : Wr h h' a sl v) (q : b ≠ a) : LA Z h' b n := by obtain ⟨c, A, r⟩ := F; exact ⟨c, A.other W q, r⟩
theorem LA.keep (F : LA Z h a n) (K : Keep h h' ws) (q : a ∉ ws) : LA Z h' a n := by obtain ⟨c, A, r⟩ := F; exact ⟨c, ⟨K.2.1 a c A.1 q, A.2⟩, r⟩
theorem LA.new {k : ClassId} (A : Arr Z h a (newA k .long n) .long) (q : ¬ n < 0) : LA Z h a n := by
  obtain ⟨c, A, -, S, N, H, -⟩ := Arv.new A q
  exact ⟨c, A, S, N, fun i hi => ⟨0, H i hi⟩⟩
theorem own_laload (X : Stand p l e R s m args below meth c T locs cells slots) (hx : p.tables.exec = Jvm.exec) (hZ : Z.Warmed39 s.vm) (eT : T.heap = h) (F : LA Z h a n) (hj : ¬ j < 0 ∧ j < n) {g : JFrame} (hg : g.method = m) {rest : List Value} (hs : g.stack = .int j :: .ref a :: rest) (hd : decode c.code g.pc = .ok (.laload, 1)) :
    ∃ x : Int64, ∀ target, Steps p.tables e below (T.setTop { g with pc := g.pc + 1, stack := .long x :: rest }) target → Steps p.tables e below (T.setTop g) target := by
  obtain ⟨cl, A, S, N, H⟩ := F
  have hin := inb_of S hj
  obtain ⟨x, hv⟩ := H j.toNatClampNeg (Nat.lt_of_not_le fun q => hin (Or.inr q))
  exact ⟨x, fun target hr => X.laload hx (by rw [eT]; exact A.1) (State.isArrayOf_alike hZ.alike A.2.1) A.2.2 hin hv hg hs hd target hr⟩
theorem own_lastore (X : Stand p l e R s m args below meth c T locs cells slots) (hx : p.tables.exec = Jvm.exec) (hZ : Z.Warmed39 s.vm) (eT : T.heap = h) (F : LA Z h a n) (hj : ¬ j < 0 ∧ j < n) {x : Int64} {g : JFrame} (hg : g.method = m) {rest : List Value} (hs : g.stack = .long x :: .int j :: .ref a :: rest) (hd : decode c.code g.pc = .ok (.lastore, 1)) :
    ∃ T' h', Stand p l e R s m args below meth c T' (locs ++ [⟨a, j.toNatClampNeg⟩]) cells slots ∧ T'.heap = h' ∧ Wr h h' a j.toNatClampNeg (.long x) ∧ LA Z h' a n ∧ ∀ target, Steps p.tables e below (T'.setTop { g with pc := g.pc + 1, stack := rest }) target → Steps p.tables e below (T.setTop g) target := by
  obtain ⟨cl, A, S, N, H⟩ := F
  have hin := inb_of S hj
  obtain ⟨T', h', X', e', W, st⟩ := stJ X hx hZ eT A hin hg hs hd
  refine ⟨T', h', X', e', W, ⟨_, A.same W, by rw [sz_set]; exact S, N, fun i hi => ?_⟩, st⟩
  rw [sz_set] at hi
  by_cases u : j.toNatClampNeg = i
  · subst u; exact ⟨x, by simp [Cell.setSlot, hi]⟩
  · obtain ⟨y, hy⟩ := H i hi
    exact ⟨y, by simp only [Cell.setSlot]; rw [Array.getElem?_setIfInBounds_ne u]; exact hy⟩
theorem own_alenL (X : Stand p l e R s m args below meth c T locs cells slots) (hx : p.tables.exec = Jvm.exec) (hZ : Z.Warmed39 s.vm) (eT : T.heap = h) (F : LA Z h a n) {g : JFrame} (hg : g.method = m) {rest : List Value} (hs : g.stack = .ref a :: rest) (hd : decode c.code g.pc = .ok (.arraylength, 1)) (target : State) (hr : Steps p.tables e below (T.setTop { g with pc := g.pc + 1, stack := .int n :: rest }) target) : Steps p.tables e below (T.setTop g) target := by
  obtain ⟨cl, A, S, N, H⟩ := F
  refine X.arraylength hx (by rw [eT]; exact A.1) (State.isArrayOf_alike hZ.alike A.2.1) hg hs hd target ?_
  rw [len_of S N]; exact hr
/-- the array of the pages: the last writes, and null elsewhere -/
def PA (Z : State) (h : Heap) (a : Addr) (n : Int32) (hl : List (Int32 × Value)) : Prop := ∃ k : ClassId, Arh Z h a k (.object "com/example/tributary/tributary/model/NodeHashes$Page") n hl [] .null ∧ Ovr Z k "com/example/tributary/tributary/model/NodeHashes$Page"
theorem PA.lt (F : PA Z h a n hl) : a < h.size := by obtain ⟨_, F, -⟩ := F; exact F.lt
theorem PA.ext (F : PA Z h a n hl) (E : Ext h h') : PA Z h' a n hl := by obtain ⟨k, F, O⟩ := F; exact ⟨k, F.ext E, O⟩
theorem PA.other (F : PA Z h b n hl) (W : Wr h h' a sl v) (q : b ≠ a) : PA Z h' b n hl := by obtain ⟨k, F, O⟩ := F; exact ⟨k, F.other W q, O⟩
theorem PA.keep (F : PA Z h a n hl) (K : Keep h h' ws) (q : a ∉ ws) : PA Z h' a n hl := by obtain ⟨k, F, O⟩ := F; exact ⟨k, F.keep K q, O⟩
theorem PA.new {k : ClassId} (A : Arr Z h a (newA k (.object "com/example/tributary/tributary/model/NodeHashes$Page") n) (.object "com/example/tributary/tributary/model/NodeHashes$Page")) (q : ¬ n < 0) (O : Ovr Z k "com/example/tributary/tributary/model/NodeHashes$Page") : PA Z h a n [] := ⟨k, (Arv.new A q).arh, O⟩
theorem own_aaload (X : Stand p l e R s m args below meth c T locs cells slots) (hx : p.tables.exec = Jvm.exec) (hZ : Z.Warmed39 s.vm) (eT : T.heap = h) (F : PA Z h a n hl) (hj : ¬ j < 0 ∧ j < n) {v : Value} (hv : getH hl [] .null j.toNatClampNeg = v) {g : JFrame} (hg : g.method = m) {rest : List Value} (hs : g.stack = .int j :: .ref a :: rest) (hd : decode c.code g.pc = .ok (.aaload, 1)) (target : State)
    (hr : Steps p.tables e below (T.setTop { g with pc := g.pc + 1, stack := v :: rest }) target) : Steps p.tables e below (T.setTop g) target := by
  obtain ⟨k, ⟨cl, A, q1, S, N, H, G⟩, O⟩ := F
  have hin := inb_of S hj
  exact X.aaload hx (by rw [eT]; exact A.1) (State.isArrayOf_alike hZ.alike A.2.1) rfl A.2.2 hin (atH H hin hv) hg hs hd target hr
theorem own_aastore (X : Stand p l e R s m args below meth c T locs cells slots) (hx : p.tables.exec = Jvm.exec) (hZ : Z.Warmed39 s.vm) (eT : T.heap = h) (F : PA Z h a n hl) (hj : ¬ j < 0 ∧ j < n) (E : Exa Z h b "com/example/tributary/tributary/model/NodeHashes$Page") {g : JFrame} (hg : g.method = m) {rest : List Value} (hs : g.stack = .ref b :: .int j :: .ref a :: rest) (hd : decode c.code g.pc = .ok (.aastore, 1)) :
    ∃ T' h', Stand p l e R s m args below meth c T' (locs ++ [⟨a, j.toNatClampNeg⟩]) cells slots ∧ T'.heap = h' ∧ Wr h h' a j.toNatClampNeg (.ref b) ∧ PA Z h' a n ((j, .ref b) :: hl) ∧ ∀ target, Steps p.tables e below (T'.setTop { g with pc := g.pc + 1, stack := rest }) target → Steps p.tables e below (T.setTop g) target := by
  obtain ⟨k, ⟨cl, A, q1, S, N, H, G⟩, O⟩ := F
  have hin := inb_of S hj
  obtain ⟨T', h', X', e', W, st⟩ := stR X hx hZ eT A hin rfl (Sto.ofV A q1 O (Ins.self E)) hg hs hd
  exact ⟨T', h', X', e', W, ⟨k, Arh.push A q1 S N H G rfl W hin, O⟩, st⟩
theorem own_alenP (X : Stand p l e R s m args below meth c T locs cells slots) (hx : p.tables.exec = Jvm.exec) (hZ : Z.Warmed39 s.vm) (eT : T.heap = h) (F : PA Z h a n hl) {g : JFrame} (hg : g.method = m) {rest : List Value} (hs : g.stack = .ref a :: rest) (hd : decode c.code g.pc = .ok (.arraylength, 1)) (target : State) (hr : Steps p.tables e below (T.setTop { g with pc := g.pc + 1, stack := .int n :: rest }) target) : Steps p.tables e below (T.setTop g) target := by
  obtain ⟨k, ⟨cl, A, q1, S, N, H, G⟩, O⟩ := F
  refine X.arraylength hx (by rw [eT]; exact A.1) (State.isArrayOf_alike hZ.alike A.2.1) hg hs hd target ?_
  rw [len_of S N]; exact hr
theorem own_cpB (X : Stand p l e R s m args below meth c T locs cells slots) (hx : p.tables.exec = Jvm.exec) (hZ : Z.Warmed39 s.vm) {own : String} {index : Nat} (hown : s.vm.findClass own = some m.cls) (w1 : (Jvm.Cond.methodLink own index Jvm.Stand.acN).before a0 Z = true) (w2 : (Jvm.Cond.native Jvm.Stand.acN).before a0 Z = true) (w3 : (Jvm.Cond.static Jvm.Stand.acN).before a0 Z = true) (w4 : (Jvm.Cond.initialized "java/lang/System").before a0 Z = true) (eT : T.heap = h)
    {z z' sp dp nn : Int32} (A : BA Z h a z) (B : BA Z h b z') (h1 : ¬ sp < 0) (h2 : ¬ dp < 0) (h3 : ¬ nn < 0) (h4 : sp.toNatClampNeg + nn.toNatClampNeg ≤ z.toNatClampNeg) (h5 : dp.toNatClampNeg + nn.toNatClampNeg ≤ z'.toNatClampNeg) {n0 : Nat} (N : Fr n0 locs) (ge : n0 ≤ b)
    {g : JFrame} (hg : g.method = m) (hsize : g.locals.size = c.maxLocals) {rest : List Value} (hs : g.stack = .int nn :: .int dp :: .ref b :: .int sp :: .ref a :: rest) (hd : decode c.code g.pc = .ok (.invokestatic index, 3)) (hf : 1 ≤ R.frames) {W : Nat} (hW : 2 * g.monitorRoom + (rest.map fun v => v.category).sum ≤ W) (hlo : W + (nativeFrameWords "java/lang/System" "arraycopy" 5 + 11) ≤ R.locals) :
    ∃ T' h' L, Stand p l e R s m args below meth c T' L cells slots ∧ T'.heap = h' ∧ Fr n0 L ∧ Keep h h' [b] ∧ BA Z h' b z' ∧ ∀ target, Steps p.tables e below (T'.setTop { g with pc := g.pc + 3, stack := rest }) target → Steps p.tables e below (T.setTop g) target := by
  obtain ⟨k, vs, A⟩ := A
  obtain ⟨k', vd, B⟩ := B
  have B' := B.pad (pad_rep vd (.int 0) z'.toNatClampNeg)
  obtain ⟨T', h', L, X', e', N', K, V, st⟩ := cpA X hx hZ hown w1 w2 w3 w4 eT A B' (Or.inl ⟨rfl, rfl⟩) h1 h2 h3 h4 h5 rfl (by rw [List.length_append, List.length_replicate]; omega) N ge hg hsize hs hd hf hW hlo
  exact ⟨T', h', L, X', e', N', K, ⟨k', _, V⟩, st⟩
/-- getfield over an entry that was used before -/
theorem own_getR (X : Stand p l e R s m args below meth c T locs cells slots) (hx : p.tables.exec = Jvm.exec) (hZ : Z.Warmed39 s.vm) {own O nn d : String} {index : Nat} (hown : s.vm.findClass own = some m.cls) (w : (Jvm.Cond.fieldRef own index O nn d).before a0 Z = true) (eT : T.heap = h) {v : Value} (F : Fld Z h a O nn d v) {g : JFrame} (hg : g.method = m) {rest : List Value} (hs : g.stack = .ref a :: rest) (hd : decode c.code g.pc = .ok (.getfield index, 3)) :
    ∀ target, Steps p.tables e below (T.setTop { g with pc := g.pc + 3, stack := v :: rest }) target → Steps p.tables e below (T.setTop g) target := by
  intro target hrest
  have hW := wtrans hZ X.warmed
  have hcur : (Z.setVm T.vm).vm.findClass own = some m.cls := by rw [State.vm_setVm, X.warmed.alike.findClass]; exact hown
  obtain ⟨c', k', i', f', hf', hready⟩ := Cond.fieldRef_spec hcur (Cond.fieldRef_warmed39 hW w)
  obtain ⟨cell, cf, k, i, f, h1, h2, h3, h4, -, -, h7⟩ := F
  obtain ⟨k'', hi, -⟩ := State.fieldFound?_setVm (s := Z) hW.alike h2
  cases hf'.symm.trans hi
  subst hg
  have h1' : T.heap[a]? = some cell := by rw [eT]; exact h1
  jvm_step X.here [hx, hd, getfield.wp_ready (e := e) (s := T) (f := g) X.here.top hready h3 hs h1' h4 h7]
  exact hrest
/-- a constructor over an entry that was used before -/
theorem own_specialRef (X : Stand p l e R s m args below meth c T locs cells slots) (hx : p.tables.exec = Jvm.exec) (hZ : Z.Warmed39 s.vm) {own : String} {index : Nat} {y : MethodName} (hy1 : y.name = "<init>") (hown : s.vm.findClass own = some m.cls) (w : (Jvm.Cond.methodRef own index y).before a0 Z = true) (hinst : (Jvm.Cond.instanceMethod y).before args s = true)
    {bytes : ByteArray} {maxL : Nat} (hcode : (Jvm.Cond.code y bytes maxL none).before args s = true) (hy : y.cls ≠ "java/lang/invoke/MethodHandle" ∧ y.cls ≠ "java/lang/invoke/VarHandle")
    {W : Nat} {Pre : Pt → Array Value → Prop} {Post : Pt → Array Value → Option Value → Pt → Prop} (hK : Back l R p e below s args y 3 W Pre Post)
    {g : JFrame} (hg : g.method = m) (hsize : g.locals.size = c.maxLocals) {s₀ : State} (hcome : Steps p.tables e below s₀ (T.setTop g)) {a : Addr} {argsL rest : List Value}
    (hlen : ∀ sig, parseMethodDescriptor y.desc = some sig → argsL.length = sig.parameters.length) (hstack : g.stack = argsL.reverse ++ .ref a :: rest) (hW : 2 * g.monitorRoom + (rest.map fun v => v.category).sum ≤ W)
    (hdg : decode c.code g.pc = .ok (.invokespecial index, 3)) (hpre : ∀ vm₁, s.WarmedH vm₁ → Pre ⟨T.setVm vm₁, locs, cells, slots⟩ (.ref a :: argsL).toArray) :
    ∃ (v : Option Value) (vm₁ : Vm) (B : Pt), s.WarmedH vm₁ ∧ Stand p l e R s m args below meth c B.U B.locs B.cells B.slots ∧ Post ⟨T.setVm vm₁, locs, cells, slots⟩ (.ref a :: argsL).toArray v B ∧
      Steps p.tables e below s₀ (B.U.setTop { g with pc := g.pc + 3, stack := v.toList ++ rest }) := by
  have hWd := wtrans hZ X.warmed
  have hself : T.setVm T.vm = T := rfl
  have hcur : (Z.setVm T.vm).vm.findClass own = some m.cls := by rw [State.vm_setVm, X.warmed.alike.findClass]; exact hown
  obtain ⟨obj, methO, hnO, hmO, hstO, habO⟩ := Cond.instanceMethod_spec hinst
  obtain ⟨methO', cO, hmO', hcO, hbO, hlO, -, hlockO, -, hsigO⟩ := Cond.code_spec hnO hcode
  cases hmO.symm.trans hmO'
  obtain ⟨kO, hkO, hnameO⟩ := className_of_methodNamed hnO
  obtain ⟨hnameMO, hdescO⟩ := name_of_methodNamed hnO hmO
  have hnZ : Z.methodNamed? y = some obj := by rw [← State.methodNamed?_setVm hZ.alike]; exact hnO
  have hnT : (Z.setVm T.vm).methodNamed? y = some obj := by rw [State.methodNamed?_setVm hWd.alike]; exact hnZ
  obtain ⟨mm, c', hf, hready, hfind, hnamed⟩ := Cond.methodRef_named e hcur (Cond.methodRef_warmed39 hWd hnZ hy w)
  cases (State.methodFound?_of_named hnT hy).symm.trans hf
  cases hfind.symm.trans (findClass_of_methodNamed hnT)
  obtain ⟨kO₂, hkO₂, -⟩ := X.warmed.alike.2.2 _ _ hkO
  have hmO₂ : T.vm.method? obj = some methO := by rw [X.warmed.alike.method?]; exact hmO
  have hfound : lookupSpecial T.vm obj.cls "<init>" methO.desc = .method obj := by
    rw [X.warmed.alike.lookupSpecial, hdescO, ← hy1]; exact lookupSpecial_of_named hnO hmO hstO
  subst hg
  have hp := hpre T.vm X.warmed
  rw [hself] at hp
  obtain ⟨v, B, X', hpost, hsteps⟩ := hK g.method meth c ⟨T, locs, cells, slots⟩ { g with stack := rest } (.invokespecial index) obj (.ref a :: argsL).toArray X rfl hsize hdg hW hnT hp
  refine ⟨v, T.vm, B, X.warmed, X', by rw [hself]; exact hpost, hcome.trans ?_⟩
  jvm_step X.here [hx, hdg, invokespecial.wp_init (e := e) (s := T) (k := kO₂) (meth := methO) (m := obj) (a := a) (args := argsL) (rest := rest) (f := g) X.here.top hnamed hready hkO₂ hmO₂ (by rw [hnameMO]; exact hy1) hstO habO hfound (hlen _ hsigO) hstack]
  exact fun acts => by rw [doInvoke_state]; exact hsteps
theorem own_tabT (hZ : Z.Warmed39 s.vm) (hw : HW Z a0) : Jvm.Free.JP.Long_numberOfTrailingZeros_J.tab.before args s = true := by
  have hI : Jvm.Free.JP.Integer_numberOfTrailingZeros_I.tab.before args s = true := Jvm.Free.XT.unparts (mvT hZ (ww hw 130 rfl)) fun w q => by
    rcases List.mem_cons.mp q with rfl | q
    · exact mvT hZ (ww hw 129 rfl)
    rcases List.mem_cons.mp q with rfl | q
    · exact mvT hZ (ww hw 131 rfl)
    cases q
  refine Jvm.Free.XT.unparts (mvT hZ (ww hw 126 rfl)) fun w q => ?_
  rcases List.mem_cons.mp q with rfl | q
  · exact mvT hZ (ww hw 125 rfl)
  rcases List.mem_cons.mp q with rfl | q
  · exact hI
  rcases List.mem_cons.mp q with rfl | q
  · exact mvT hZ (ww hw 127 rfl)
  rcases List.mem_cons.mp q with rfl | q
  · exact mvT hZ (ww hw 128 rfl)
  cases q
theorem own_tabN (hZ : Z.Warmed39 s.vm) (hw : HW Z a0) : Jvm.Free.JP.Long_numberOfLeadingZeros_J.tab.before args s = true := by
  have hI : Jvm.Free.JP.Integer_numberOfLeadingZeros_I.tab.before args s = true := Jvm.Free.XT.unparts (mvT hZ (ww hw 156 rfl)) fun w q => by
    rcases List.mem_cons.mp q with rfl | q
    · exact mvT hZ (ww hw 129 rfl)
    rcases List.mem_cons.mp q with rfl | q
    · exact mvT hZ (ww hw 131 rfl)
    cases q
  refine Jvm.Free.XT.unparts (mvT hZ (ww hw 153 rfl)) fun w q => ?_
  rcases List.mem_cons.mp q with rfl | q
  · exact mvT hZ (ww hw 125 rfl)
  rcases List.mem_cons.mp q with rfl | q
  · exact hI
  rcases List.mem_cons.mp q with rfl | q
  · exact mvT hZ (ww hw 154 rfl)
  rcases List.mem_cons.mp q with rfl | q
  · exact mvT hZ (ww hw 155 rfl)
  cases q
abbrev ntL := Jvm.Free.JP.Long_numberOfTrailingZeros_J.val
abbrev nlL := Jvm.Free.JP.Long_numberOfLeadingZeros_J.val
theorem own_ntz (X : Stand p l e R s m args below meth c T locs cells slots) (hx : p.tables.exec = Jvm.exec) (hZ : Z.Warmed39 s.vm) (hw : HW Z a0) (hown : s.vm.findClass "java/util/BitSet" = some m.cls) (eT : T.heap = h) {x : Int64} {g : JFrame} (hg : g.method = m) (hsize : g.locals.size = c.maxLocals) {rest : List Value} (hs : g.stack = .long x :: rest) (hd : decode c.code g.pc = .ok (.invokestatic 182, 3)) (hc : cells ≤ R.cells) (hsl : slots ≤ R.slots) (hf : 2 ≤ R.frames) {W : Nat} (hW : 2 * g.monitorRoom + (rest.map fun v => v.category).sum ≤ W) (hl : W + 28 ≤ R.locals) :
    ∃ T', Stand p l e R s m args below meth c T' locs cells slots ∧ T'.heap = h ∧ ∀ target, Steps p.tables e below (T'.setTop { g with pc := g.pc + 3, stack := .int (ntL x) :: rest }) target → Steps p.tables e below (T.setTop g) target := by
  obtain ⟨v, T', X', ⟨hv, hh⟩, st⟩ := Jvm.Stand.callS X hx (Jvm.Free.JP.Long_numberOfTrailingZeros_J.law l x) hown (fun w q => by
    rcases List.mem_cons.mp q with rfl | q
    · exact mvT hZ (ww hw 123 rfl)
    rcases List.mem_cons.mp q with rfl | q
    · exact mvT hZ (ww hw 124 rfl)
    cases q) (own_tabT hZ hw) (W := W) (by omega) (by omega) (by omega) (by omega) hg hsize (Steps.refl _) (argsL := [.long x]) (rest := rest) rfl hs hW hd ⟨rfl, trivial⟩
  subst hv
  rw [List.append_nil] at X'
  exact ⟨T', X', by rw [hh, eT], fun target hr => st.trans hr⟩
theorem own_nlz (X : Stand p l e R s m args below meth c T locs cells slots) (hx : p.tables.exec = Jvm.exec) (hZ : Z.Warmed39 s.vm) (hw : HW Z a0) (hown : s.vm.findClass "java/util/BitSet" = some m.cls) (eT : T.heap = h) {x : Int64} {g : JFrame} (hg : g.method = m) (hsize : g.locals.size = c.maxLocals) {rest : List Value} (hs : g.stack = .long x :: rest) (hd : decode c.code g.pc = .ok (.invokestatic 190, 3)) (hc : cells ≤ R.cells) (hsl : slots ≤ R.slots) (hf : 2 ≤ R.frames) {W : Nat} (hW : 2 * g.monitorRoom + (rest.map fun v => v.category).sum ≤ W) (hl : W + 28 ≤ R.locals) :
    ∃ T', Stand p l e R s m args below meth c T' locs cells slots ∧ T'.heap = h ∧ ∀ target, Steps p.tables e below (T'.setTop { g with pc := g.pc + 3, stack := .int (nlL x) :: rest }) target → Steps p.tables e below (T.setTop g) target := by
  obtain ⟨v, T', X', ⟨hv, hh⟩, st⟩ := Jvm.Stand.callS X hx (Jvm.Free.JP.Long_numberOfLeadingZeros_J.law l x) hown (fun w q => by
    rcases List.mem_cons.mp q with rfl | q
    · exact mvT hZ (ww hw 151 rfl)
    rcases List.mem_cons.mp q with rfl | q
    · exact mvT hZ (ww hw 152 rfl)
    cases q) (own_tabN hZ hw) (W := W) (by omega) (by omega) (by omega) (by omega) hg hsize (Steps.refl _) (argsL := [.long x]) (rest := rest) rfl hs hW hd ⟨rfl, trivial⟩
  subst hv
  rw [List.append_nil] at X'
  exact ⟨T', X', by rw [hh, eT], fun target hr => st.trans hr⟩
end M1
def RU (u n : Int32) : Prop := 0 ≤ u.toInt ∧ u.toInt ≤ n.toInt
def NW (n : Int32) : Prop := 1 ≤ n.toInt ∧ n.toInt ≤ 4
def cap4 (n : Int32) : Prop := ¬ n < 0 ∧ n.toNatClampNeg ≤ 4
def capB (n : Int32) : Prop := ¬ n < 0 ∧ n.toNatClampNeg ≤ 16128
def capP (n : Int32) : Prop := ¬ n < 0 ∧ n.toNatClampNeg ≤ 256
def cpOK (dp nn z : Int32) : Prop := ¬ dp < 0 ∧ ¬ nn < 0 ∧ (0 : Int32).toNatClampNeg + nn.toNatClampNeg ≤ (64 : Int32).toNatClampNeg ∧ dp.toNatClampNeg + nn.toNatClampNeg ≤ z.toNatClampNeg
theorem own_i0 : (0 : Int32).toInt = 0 := by decide
theorem own_nlt {x y : Int32} (h : y.toInt ≤ x.toInt) : ¬ x < y := by rw [Int32.lt_iff_toInt_lt]; omega
theorem own_lt {x y : Int32} (h : x.toInt < y.toInt) : x < y := by rw [Int32.lt_iff_toInt_lt]; exact h
theorem own_nlt0 {x : Int32} (h : 0 ≤ x.toInt) : ¬ x < (0 : Int32) := own_nlt (by rw [own_i0]; exact h)
theorem own_of_lt {x y : Int32} (h : x < y) : x.toInt < y.toInt := Int32.lt_iff_toInt_lt.mp h
theorem own_of_nlt {x y : Int32} (h : ¬ x < y) : y.toInt ≤ x.toInt := by rw [Int32.lt_iff_toInt_lt] at h; omega
theorem own_of_nlt0 {x : Int32} (h : ¬ x < (0 : Int32)) : 0 ≤ x.toInt := by have := own_of_nlt h; rw [own_i0] at this; exact this
theorem own_sh6 (x : Int32) : (x >>> ((6 : Int32) &&& 31)).toInt = x.toInt / 64 := c_ishr x 6 6 (by decide)
theorem own_ad {x y : Int32} (h1 : -2147483648 ≤ x.toInt + y.toInt) (h2 : x.toInt + y.toInt < 2147483648) : (x + y).toInt = x.toInt + y.toInt := by have := c_iadd x y; have := rng32 (x + y); omega
theorem own_sb {x y : Int32} (h1 : -2147483648 ≤ x.toInt - y.toInt) (h2 : x.toInt - y.toInt < 2147483648) : (x - y).toInt = x.toInt - y.toInt := by have := c_isub x y; have := rng32 (x - y); omega
theorem own_tn (x : Int32) : (x.toBitVec.toNat < 2147483648 ∧ x.toInt = x.toBitVec.toNat) ∨ (2147483648 ≤ x.toBitVec.toNat ∧ x.toBitVec.toNat < 4294967296 ∧ x.toInt = (x.toBitVec.toNat : Int) - 4294967296) := by
  have h := x.toBitVec.isLt
  have e : x.toInt = x.toBitVec.toInt := rfl
  rw [e, BitVec.toInt_eq_toNat_cond]
  split <;> omega
theorem own_tn64 (x : Int64) : (x.toBitVec.toNat < 9223372036854775808 ∧ x.toInt = x.toBitVec.toNat) ∨ (9223372036854775808 ≤ x.toBitVec.toNat ∧ x.toBitVec.toNat < 18446744073709551616 ∧ x.toInt = (x.toBitVec.toNat : Int) - 18446744073709551616) := by
  have h := x.toBitVec.isLt
  have e : x.toInt = x.toBitVec.toInt := rfl
  rw [e, BitVec.toInt_eq_toNat_cond]
  split <;> omega
theorem own_not (x : Int32) : (x ^^^ (-1)).toBitVec.toNat = 4294967295 - x.toBitVec.toNat := by
  have h : (x ^^^ (-1)).toBitVec = ~~~ x.toBitVec := by
    show x.toBitVec ^^^ (-1 : Int32).toBitVec = _
    rw [show (-1 : Int32).toBitVec = BitVec.allOnes 32 from by decide, BitVec.xor_allOnes]
  have h2 := BitVec.toNat_not (x := x.toBitVec)
  rw [h]; omega
theorem own_m1 (x : Int32) : (x - 1).toBitVec.toNat = (4294967295 + x.toBitVec.toNat) % 4294967296 := by
  have h3 : (x - 1).toBitVec = x.toBitVec - (1 : Int32).toBitVec := rfl
  have h2 := BitVec.toNat_sub x.toBitVec (1 : Int32).toBitVec
  rw [show (1 : Int32).toBitVec.toNat = 1 from by decide] at h2
  rw [h3]; omega
theorem own_e1 (X t : Nat) (hX : X < 4294967296) (ht : t ≤ 31) (h : X % 2 ^ t = 0) : (4294967295 - X) % 2 ^ t = 2 ^ t - 1 ∧ ((4294967295 + X) % 4294967296) % 2 ^ t = 2 ^ t - 1 := by
  rcases (by omega : t = 0 ∨ t = 1 ∨ t = 2 ∨ t = 3 ∨ t = 4 ∨ t = 5 ∨ t = 6 ∨ t = 7 ∨ t = 8 ∨ t = 9 ∨ t = 10 ∨ t = 11 ∨ t = 12 ∨ t = 13 ∨ t = 14 ∨ t = 15 ∨ t = 16 ∨ t = 17 ∨ t = 18 ∨ t = 19 ∨ t = 20 ∨ t = 21 ∨ t = 22 ∨ t = 23 ∨ t = 24 ∨ t = 25 ∨ t = 26 ∨ t = 27 ∨ t = 28 ∨ t = 29 ∨ t = 30 ∨ t = 31) with rfl | rfl | rfl | rfl | rfl | rfl | rfl | rfl | rfl | rfl | rfl | rfl | rfl | rfl | rfl | rfl | rfl | rfl | rfl | rfl | rfl | rfl | rfl | rfl | rfl | rfl | rfl | rfl | rfl | rfl | rfl | rfl <;> first | omega | (simp only [Nat.reducePow] at h ⊢; omega)
theorem own_mlow (x : Int32) (t : Nat) (ht : t ≤ 31) (h : x.toBitVec.toNat % 2 ^ t = 0) : ((x ^^^ (-1)) &&& (x - 1)).toBitVec.toNat % 2 ^ t = 2 ^ t - 1 := by
  have e : ((x ^^^ (-1)) &&& (x - 1)).toBitVec = (x ^^^ (-1)).toBitVec &&& (x - 1).toBitVec := rfl
  obtain ⟨e1, e2⟩ := own_e1 x.toBitVec.toNat t x.toBitVec.isLt ht h
  rw [e, BitVec.toNat_and, Nat.and_mod_two_pow, own_not, own_m1, e1, e2, Nat.and_self]
theorem own_Mnn (x : Int32) (hx : x ≠ 0) : 0 ≤ ((x ^^^ (-1)) &&& (x - 1)).toInt := by
  have h1 := own_tn x
  have h2 := own_tn (x - 1)
  have h3 := own_m1 x
  have h4 := own_tn (x ^^^ (-1))
  have h5 := own_not x
  have h0 : x.toInt ≠ 0 := fun q => hx (Int32.toInt_inj.mp (by rw [q]; rfl))
  by_cases q : 0 ≤ (x - 1).toInt
  · exact (c_and (x ^^^ (-1)) (x - 1) q).1
  · exact (c_and' (x ^^^ (-1)) (x - 1) (by omega)).1
abbrev ntI := Jvm.Free.JP.Integer_numberOfTrailingZeros_I.val
abbrev us := Jvm.Free.XT.ushr
theorem own_us (m k : Int32) (kk : Nat) (d : Int) (hk : k.toBitVec.toNat % 32 = kk) (h0 : 0 < kk) (hd : ((2 ^ kk : Nat) : Int) = d) (hm : 0 ≤ m.toInt) : (us m k).toInt = m.toInt / d := by
  have q := c_iushr m k kk hk h0
  have r := rng32 m
  rw [Int.emod_eq_of_lt hm (by omega), hd] at q
  exact q
def own_s4 (m n : Int32) : Int32 := if 4 < m then (n + 2) + us (us m 2) 1 else n + us m 1
def own_s3 (m n : Int32) : Int32 := if 16 < m then own_s4 (us m 4) (n + 4) else own_s4 m n
def own_s2 (m n : Int32) : Int32 := if 256 < m then own_s3 (us m 8) (n + 8) else own_s3 m n
def own_s1 (m : Int32) : Int32 := if 65536 < m then own_s2 (us m 16) (1 + 16) else own_s2 m 1
theorem own_ntI (x : Int32) : ntI x = if 0 < ((x ^^^ (-1)) &&& (x - 1)) then own_s1 ((x ^^^ (-1)) &&& (x - 1)) else ((x ^^^ (-1)) &&& (x - 1)) &&& 32 := rfl
theorem own_pw (k j d : Nat) (hd : 2 ^ j = d) : (2 ^ (k + j) : Nat) = 2 ^ k * d := by rw [Nat.pow_add, hd]
theorem own_s4_ge (m n : Int32) (hm : 0 ≤ m.toInt) (hm2 : m.toInt ≤ 16) (hn : 1 ≤ n.toInt) (hn2 : n.toInt ≤ 29) : n.toInt ≤ (own_s4 m n).toInt ∧ (own_s4 m n).toInt ≤ n.toInt + 12 ∧ ∀ t : Nat, ((2 ^ t : Nat) : Int) ≤ m.toInt + 1 → n.toInt + t - 1 ≤ (own_s4 m n).toInt := by
  have u1 := own_us m 1 1 2 (by decide) (by decide) (by decide) hm
  have u2 := own_us m 2 2 4 (by decide) (by decide) (by decide) hm
  have key : ∀ r : Int, n.toInt ≤ r → r ≤ n.toInt + 12 → (m.toInt ≥ 1 → n.toInt ≤ r) → (m.toInt ≥ 3 → n.toInt + 1 ≤ r) → (m.toInt ≥ 7 → n.toInt + 2 ≤ r) → (m.toInt ≥ 15 → n.toInt + 3 ≤ r) → ∀ t : Nat, ((2 ^ t : Nat) : Int) ≤ m.toInt + 1 → n.toInt + t - 1 ≤ r := by
    intro r c0 c1 c2 c3 c4 c5 t h
    rcases (by omega : t = 0 ∨ t = 1 ∨ t = 2 ∨ t = 3 ∨ t = 4 ∨ 5 ≤ t) with rfl | rfl | rfl | rfl | rfl | h5
    · omega
    · have h' : (2 : Int) ≤ m.toInt + 1 := h
      omega
    · have h' : (4 : Int) ≤ m.toInt + 1 := h
      omega
    · have h' : (8 : Int) ≤ m.toInt + 1 := h
      omega
    · have h' : (16 : Int) ≤ m.toInt + 1 := h
      omega
    · obtain ⟨k, rfl⟩ : ∃ k, t = k + 5 := ⟨t - 5, by omega⟩
      have e := own_pw k 5 32 (by decide)
      have := Nat.two_pow_pos k
      rw [e] at h
      omega
  unfold own_s4
  by_cases q : (4 : Int32) < m
  · rw [if_pos q]
    have q' : (4 : Int) < m.toInt := own_of_lt q
    have u3 := own_us (us m 2) 1 1 2 (by decide) (by decide) (by decide) (by omega)
    have t2 : (2 : Int32).toInt = 2 := by decide
    have a1 := own_ad (x := n) (y := 2) (by omega) (by omega)
    have a2 := own_ad (x := n + 2) (y := us (us m 2) 1) (by omega) (by omega)
    exact ⟨by omega, by omega, key _ (by omega) (by omega) (by omega) (by omega) (by omega) (by omega)⟩
  · rw [if_neg q]
    have q' : m.toInt ≤ (4 : Int) := own_of_nlt q
    have a1 := own_ad (x := n) (y := us m 1) (by omega) (by omega)
    exact ⟨by omega, by omega, key _ (by omega) (by omega) (by omega) (by omega) (by omega) (by omega)⟩
theorem own_s3_ge (m n : Int32) (hm : 0 ≤ m.toInt) (hm2 : m.toInt ≤ 256) (hn : 1 ≤ n.toInt) (hn2 : n.toInt ≤ 25) : n.toInt ≤ (own_s3 m n).toInt ∧ (own_s3 m n).toInt ≤ n.toInt + 16 ∧ ∀ t : Nat, ((2 ^ t : Nat) : Int) ≤ m.toInt + 1 → n.toInt + t - 1 ≤ (own_s3 m n).toInt := by
  unfold own_s3
  by_cases q : (16 : Int32) < m
  · rw [if_pos q]
    have q' : (16 : Int) < m.toInt := own_of_lt q
    have u := own_us m 4 4 16 (by decide) (by decide) (by decide) hm
    have t4 : (4 : Int32).toInt = 4 := by decide
    have a := own_ad (x := n) (y := 4) (by omega) (by omega)
    obtain ⟨b1, b2, b3⟩ := own_s4_ge (us m 4) (n + 4) (by omega) (by omega) (by omega) (by omega)
    refine ⟨by omega, by omega, fun t h => ?_⟩
    by_cases ht : t < 4
    · omega
    · obtain ⟨k, rfl⟩ : ∃ k, t = k + 4 := ⟨t - 4, by omega⟩
      rw [own_pw k 4 16 (by decide)] at h
      have := b3 k (by omega)
      omega
  · rw [if_neg q]
    have q' : m.toInt ≤ (16 : Int) := own_of_nlt q
    obtain ⟨b1, b2, b3⟩ := own_s4_ge m n hm q' hn (by omega)
    exact ⟨b1, by omega, b3⟩
theorem own_s2_ge (m n : Int32) (hm : 0 ≤ m.toInt) (hm2 : m.toInt ≤ 65536) (hn : 1 ≤ n.toInt) (hn2 : n.toInt ≤ 17) : n.toInt ≤ (own_s2 m n).toInt ∧ (own_s2 m n).toInt ≤ n.toInt + 24 ∧ ∀ t : Nat, ((2 ^ t : Nat) : Int) ≤ m.toInt + 1 → n.toInt + t - 1 ≤ (own_s2 m n).toInt := by
  unfold own_s2
  by_cases q : (256 : Int32) < m
  · rw [if_pos q]
    have q' : (256 : Int) < m.toInt := own_of_lt q
    have u := own_us m 8 8 256 (by decide) (by decide) (by decide) hm
    have t4 : (8 : Int32).toInt = 8 := by decide
    have a := own_ad (x := n) (y := 8) (by omega) (by omega)
    obtain ⟨b1, b2, b3⟩ := own_s3_ge (us m 8) (n + 8) (by omega) (by omega) (by omega) (by omega)
    refine ⟨by omega, by omega, fun t h => ?_⟩
    by_cases ht : t < 8
    · omega
    · obtain ⟨k, rfl⟩ : ∃ k, t = k + 8 := ⟨t - 8, by omega⟩
      rw [own_pw k 8 256 (by decide)] at h
      have := b3 k (by omega)
      omega
  · rw [if_neg q]
    have q' : m.toInt ≤ (256 : Int) := own_of_nlt q
    obtain ⟨b1, b2, b3⟩ := own_s3_ge m n hm q' hn (by omega)
    exact ⟨b1, by omega, b3⟩
theorem own_s1_ge (m : Int32) (hm : 0 ≤ m.toInt) : 1 ≤ (own_s1 m).toInt ∧ (own_s1 m).toInt ≤ 41 ∧ ∀ t : Nat, ((2 ^ t : Nat) : Int) ≤ m.toInt + 1 → (t : Int) ≤ (own_s1 m).toInt := by
  have r := rng32 m
  unfold own_s1
  by_cases q : (65536 : Int32) < m
  · rw [if_pos q]
    have q' : (65536 : Int) < m.toInt := own_of_lt q
    have u := own_us m 16 16 65536 (by decide) (by decide) (by decide) hm
    have t4 : ((1 : Int32) + 16).toInt = 17 := by decide
    obtain ⟨b1, b2, b3⟩ := own_s2_ge (us m 16) (1 + 16) (by omega) (by omega) (by omega) (by omega)
    refine ⟨by omega, by omega, fun t h => ?_⟩
    by_cases ht : t < 16
    · omega
    · obtain ⟨k, rfl⟩ : ∃ k, t = k + 16 := ⟨t - 16, by omega⟩
      rw [own_pw k 16 65536 (by decide)] at h
      have := b3 k (by omega)
      omega
  · rw [if_neg q]
    have q' : m.toInt ≤ (65536 : Int) := own_of_nlt q
    have t1 : (1 : Int32).toInt = 1 := by decide
    obtain ⟨b1, b2, b3⟩ := own_s2_ge m 1 hm q' (by omega) (by omega)
    exact ⟨by omega, by omega, fun t h => by have := b3 t h; omega⟩
theorem own_ntI_ge (x : Int32) (hx : x ≠ 0) (t : Nat) (ht : t ≤ 31) (h : x.toBitVec.toNat % 2 ^ t = 0) : (t : Int) ≤ (ntI x).toInt ∧ 0 ≤ (ntI x).toInt ∧ (ntI x).toInt ≤ 41 := by
  have low := own_mlow x t ht h
  have nn := own_Mnn x hx
  rw [own_ntI]
  generalize (x ^^^ (-1)) &&& (x - 1) = M at low nn
  have tn := own_tn M
  have le := Nat.mod_le M.toBitVec.toNat (2 ^ t)
  have ps := Nat.two_pow_pos t
  have pw : ((2 ^ t : Nat) : Int) ≤ M.toInt + 1 := by omega
  by_cases q : (0 : Int32) < M
  · rw [if_pos q]
    obtain ⟨b1, b2, b3⟩ := own_s1_ge M nn
    exact ⟨b3 t pw, by omega, b2⟩
  · rw [if_neg q]
    have q' : M.toInt ≤ (0 : Int32).toInt := own_of_nlt q
    rw [own_i0] at q'
    have a := c_and' M 32 nn
    have t0 : t = 0 := by
      rcases t with _ | k
      · rfl
      · rw [own_pw k 1 2 (by decide)] at pw
        have := Nat.two_pow_pos k
        omega
    subst t0
    exact ⟨by omega, by omega, by omega⟩
theorem own_hi (x : Int64) : (Jvm.Free.XT.ushrL x 32).toBitVec.toNat = x.toBitVec.toNat / 4294967296 := by
  have e : ((32 : Int32).toInt64.toUInt64 &&& Int64.toUInt64 63) = (32 : UInt64) := by decide
  unfold Jvm.Free.XT.ushrL
  rw [e]
  show (x.toBitVec >>> ((32 : UInt64).toBitVec % 64)).toNat = _
  rw [BitVec.ushiftRight_eq', BitVec.toNat_ushiftRight, Nat.shiftRight_eq_div_pow, show ((32 : UInt64).toBitVec % 64).toNat = 32 from by decide]
theorem own_l2n (x : Int64) : x.toInt32.toBitVec.toNat = x.toBitVec.toNat % 4294967296 := by
  have h1 := c_l2i x
  have h2 := own_tn x.toInt32
  have h3 := own_tn64 x
  omega
theorem own_ntL_ge (x : Int64) (hx : ¬ x = (0 : Int64)) (t : Nat) (ht : t ≤ 63) (h : x.toBitVec.toNat % 2 ^ t = 0) : (t : Int) ≤ (ntL x).toInt ∧ 0 ≤ (ntL x).toInt ∧ (ntL x).toInt ≤ 100 := by
  have e : ntL x = if x.toInt32 = 0 then 32 + ntI (Jvm.Free.XT.ushrL x 32).toInt32 else ntI x.toInt32 := rfl
  have hl := own_l2n x
  have hX0 : x.toBitVec.toNat ≠ 0 := fun q => hx (Int64.toInt_inj.mp (by have := own_tn64 x; have z : (0 : Int64).toInt = 0 := by decide
                                                                         omega))
  rw [e]
  by_cases q : x.toInt32 = 0
  · rw [if_pos q]
    rw [q, show (0 : Int32).toBitVec.toNat = 0 from by decide] at hl
    have hh := own_l2n (Jvm.Free.XT.ushrL x 32)
    rw [own_hi] at hh
    have hXl := x.toBitVec.isLt
    have hn : (Jvm.Free.XT.ushrL x 32).toInt32 ≠ 0 := fun z => by
      rw [z, show (0 : Int32).toBitVec.toNat = 0 from by decide] at hh
      omega
    have b0 := own_ntI_ge _ hn 0 (by omega) (by rw [Nat.pow_zero]; exact Nat.mod_one _)
    have t32 : (32 : Int32).toInt = 32 := by decide
    have a := own_ad (x := 32) (y := ntI (Jvm.Free.XT.ushrL x 32).toInt32) (by omega) (by omega)
    by_cases c : t < 32
    · exact ⟨by omega, by omega, by omega⟩
    · obtain ⟨k, rfl⟩ : ∃ k, t = k + 32 := ⟨t - 32, by omega⟩
      obtain ⟨w, hw⟩ := Nat.dvd_of_mod_eq_zero h
      have hd : x.toBitVec.toNat / 4294967296 = 2 ^ k * w := by
        rw [hw, own_pw k 32 4294967296 (by decide), Nat.mul_right_comm]
        exact Nat.mul_div_cancel _ (by decide)
      have b := own_ntI_ge _ hn k (by omega) (by rw [hh, Nat.mod_eq_of_lt (show x.toBitVec.toNat / 4294967296 < 4294967296 by omega), hd]; exact Nat.mul_mod_right _ _)
      exact ⟨by omega, by omega, by omega⟩
  · rw [if_neg q]
    have hn : x.toInt32.toBitVec.toNat ≠ 0 := fun z => q (Int32.toInt_inj.mp (by have := own_tn x.toInt32; rw [own_i0]; omega))
    have t31 : t ≤ 31 := by
      by_cases c : t ≤ 31
      · exact c
      · obtain ⟨k, rfl⟩ : ∃ k, t = k + 32 := ⟨t - 32, by omega⟩
        obtain ⟨w, hw⟩ := Nat.dvd_of_mod_eq_zero h
        rw [hw, own_pw k 32 4294967296 (by decide), Nat.mul_right_comm, Nat.mul_mod_left] at hl
        exact absurd hl hn
    have b := own_ntI_ge x.toInt32 q t t31 (by rw [hl, show (4294967296 : Nat) = 2 ^ 32 from rfl, Nat.mod_mod_of_dvd _ (Nat.pow_dvd_pow 2 (by omega))]; exact h)
    exact ⟨b.1, b.2.1, by omega⟩
theorem own_word (w : Int64) (f : Int32) : (w &&& ((-1 : Int64) <<< (f &&& 0x3f).toInt64)).toBitVec.toNat % 2 ^ (f.toBitVec.toNat % 64) = 0 := by
  have e : (w &&& ((-1 : Int64) <<< (f &&& 0x3f).toInt64)).toBitVec = w.toBitVec &&& ((-1 : Int64).toBitVec <<< ((f &&& 0x3f).toInt64.toBitVec.smod 64)) := rfl
  obtain ⟨e1, e2⟩ := sm64 f (f.toBitVec.toNat % 64) rfl
  rw [e, BitVec.toNat_and, BitVec.shiftLeft_eq', e1, smod64 _ e2, Nat.and_mod_two_pow, BitVec.toNat_shiftLeft, Nat.shiftLeft_eq, Nat.mod_mod_of_dvd _ (Nat.pow_dvd_pow 2 (by omega)), Nat.mul_mod_left, Nat.and_zero]
/-- what nextSetBit hands out lies at or behind its start -/
theorem own_next0 {f : Int32} {w : Int64} (h0 : 0 ≤ f.toInt ∧ f.toInt ≤ 256) (hw : ¬ (w &&& ((-1 : Int64) <<< (f &&& 0x3f).toInt64)) = (0 : Int64)) : f.toInt ≤ (((f >>> ((6 : Int32) &&& 31)) * (64 : Int32)) + ntL (w &&& ((-1 : Int64) <<< (f &&& 0x3f).toInt64))).toInt := by
  have b := own_ntL_ge _ hw (f.toBitVec.toNat % 64) (by omega) (own_word w f)
  have s := own_sh6 f
  have t := own_tn f
  have m := c_imul (f >>> ((6 : Int32) &&& 31)) 64
  rw [show (64 : Int32).toInt = 64 from by decide] at m
  have r := rng32 ((f >>> ((6 : Int32) &&& 31)) * (64 : Int32))
  have a := own_ad (x := (f >>> ((6 : Int32) &&& 31)) * (64 : Int32)) (y := ntL (w &&& ((-1 : Int64) <<< (f &&& 0x3f).toInt64))) (by omega) (by omega)
  omega
theorem own_next1 {f u : Int32} {x : Int64} (h0 : 0 ≤ f.toInt ∧ f.toInt ≤ 256) (hu : f.toInt / 64 < u.toInt) (h4 : u.toInt ≤ 8) (hx : ¬ x = (0 : Int64)) : f.toInt ≤ ((u * (64 : Int32)) + ntL x).toInt := by
  have b := own_ntL_ge x hx 0 (by omega) (by rw [Nat.pow_zero]; exact Nat.mod_one _)
  have m := c_imul u 64
  rw [show (64 : Int32).toInt = 64 from by decide] at m
  have r := rng32 (u * (64 : Int32))
  have a := own_ad (x := u * (64 : Int32)) (y := ntL x) (by omega) (by omega)
  omega
def own_minL (x y : Int64) : Int64 := if y < x then y else x
theorem own_minL_toInt (x y : Int64) : (own_minL x y).toInt = min x.toInt y.toInt := by
  unfold own_minL
  by_cases h : y < x
  · rw [if_pos h]; rw [Int64.lt_iff_toInt_lt] at h; omega
  · rw [if_neg h]; rw [Int64.lt_iff_toInt_lt] at h; omega
def NP (len ps : Int32) : Prop := 0 ≤ len.toInt ∧ len.toInt ≤ 63 ∧ 1 ≤ ps.toInt ∧ ps.toInt ≤ 256
def SL (sl : Int64) (ps np : Int32) : Prop := 0 ≤ sl.toInt ∧ sl.toInt / ps.toInt < np.toInt ∧ np.toInt ≤ 256
def FT (t : Int64) (ps np : Int32) : Prop := 1 ≤ t.toInt ∧ t.toInt ≤ 65536 ∧ t.toInt ≤ np.toInt * ps.toInt ∧ np.toInt ≤ 256
def IN (s : Int64) (ps np : Int32) : Prop := ps.toInt = min 256 s.toInt ∧ np.toInt = (s.toInt + ps.toInt - 1) / ps.toInt
def RCk (e u : Int32) (k : Int) : Prop := e.toInt < u.toInt ∧ -1 ≤ e.toInt ∧ e.toInt ≤ 3 - k
def NXk (v f u : Int32) (k : Int) : Prop := v.toInt = f.toInt / 64 + k ∧ v.toInt < u.toInt
def SE (a b : Int32) (f t : Int64) : Prop := 0 ≤ a.toInt ∧ a.toInt < b.toInt ∧ b.toInt ≤ 256 ∧ f.toInt + (b.toInt - a.toInt) ≤ t.toInt
section M2
variable {len ps np n u k i j r a b e v f x y : Int32} {s t sl q q' : Int64}
theorem own_l2i {x : Int64} (h1 : -2147483648 ≤ x.toInt) (h2 : x.toInt < 2147483648) : x.toInt32.toInt = x.toInt := by have := c_l2i x; have := rng32 x.toInt32; omega
theorem own_la {x y : Int64} (h1 : -9223372036854775808 ≤ x.toInt + y.toInt) (h2 : x.toInt + y.toInt < 9223372036854775808) : (x + y).toInt = x.toInt + y.toInt := by have := c_ladd x y; have := rng64 (x + y); omega
theorem own_ls {x y : Int64} (h1 : -9223372036854775808 ≤ x.toInt - y.toInt) (h2 : x.toInt - y.toInt < 9223372036854775808) : (x - y).toInt = x.toInt - y.toInt := by have := c_lsub x y; have := rng64 (x - y); omega
theorem own_p0 (hP : NP len ps) : ¬ (ps.toInt64) = (0 : Int64) := fun z => by
  have h := c_i2l ps
  rw [z, show (0 : Int64).toInt = 0 from by decide] at h
  obtain ⟨_, _, h1, _⟩ := hP
  omega
theorem own_div {x y : Int64} (hx : 0 ≤ x.toInt) (hy : 1 ≤ y.toInt) : (x / y).toInt = x.toInt / y.toInt := by
  refine (c_ldiv x y y.toInt rfl fun z => ?_).1 hx
  rw [z, show (-1 : Int64).toInt = -1 from by decide] at hy
  omega
theorem own_rem2 {x y : Int64} (hx : 0 ≤ x.toInt) : (own_lr x y).toInt = x.toInt % y.toInt := Jvm.Kit.i64_rem_nonneg hx
theorem own_pjt (hP : NP len ps) (hs : SL sl ps np) : ((sl / (ps.toInt64)).toInt32).toInt = sl.toInt / ps.toInt := by
  obtain ⟨_, _, h1, h2⟩ := hP
  obtain ⟨h3, h4, h5⟩ := hs
  have h := c_i2l ps
  have d := own_div (x := sl) (y := ps.toInt64) h3 (by omega)
  rw [h] at d
  have e0 : 0 ≤ sl.toInt / ps.toInt := Int.ediv_nonneg h3 (by omega)
  rw [own_l2i (by omega) (by omega), d]
theorem own_pj (hP : NP len ps) (hs : SL sl ps np) : ¬ ((sl / (ps.toInt64)).toInt32) < (0 : Int32) ∧ ((sl / (ps.toInt64)).toInt32) < np := by
  have h := own_pjt hP hs
  obtain ⟨_, _, h1, h2⟩ := hP
  obtain ⟨h3, h4, h5⟩ := hs
  have e0 : 0 ≤ sl.toInt / ps.toInt := Int.ediv_nonneg h3 (by omega)
  exact ⟨own_nlt0 (by omega), own_lt (by omega)⟩
theorem own_mul (hP : NP len ps) : (ps * len).toInt = ps.toInt * len.toInt ∧ 0 ≤ ps.toInt * len.toInt ∧ ps.toInt * len.toInt ≤ 16128 := by
  obtain ⟨h3, h4, h1, h2⟩ := hP
  have m := c_imul ps len
  have r := rng32 (ps * len)
  have p1 : 0 ≤ ps.toInt * len.toInt := Int.mul_nonneg (by omega) h3
  have p2 : ps.toInt * len.toInt ≤ 256 * 63 := Int.mul_le_mul h2 h4 h3 (by omega)
  omega
theorem own_pB (hP : NP len ps) : capB (ps * len) := by
  have h := own_mul hP
  have n0 : ¬ (ps * len) < (0 : Int32) := own_nlt0 (by omega)
  have nn := nat_of n0
  exact ⟨n0, by omega⟩
theorem own_pn (hP : NP len ps) : ¬ ps < (0 : Int32) := own_nlt0 (by have := hP.2.2.1; omega)
theorem own_nwt (hP : NP len ps) : (((ps - (1 : Int32)) >>> ((6 : Int32) &&& 31)) + (1 : Int32)).toInt = (ps.toInt - 1) / 64 + 1 := by
  obtain ⟨_, _, h1, h2⟩ := hP
  have t1 : (1 : Int32).toInt = 1 := by decide
  have s1 := own_sb (x := ps) (y := 1) (by omega) (by omega)
  have s2 := own_sh6 (ps - 1)
  have s3 := own_ad (x := (ps - (1 : Int32)) >>> ((6 : Int32) &&& 31)) (y := 1) (by omega) (by omega)
  omega
theorem own_pN (hP : NP len ps) : NW (((ps - (1 : Int32)) >>> ((6 : Int32) &&& 31)) + (1 : Int32)) := by
  have h := own_nwt hP
  obtain ⟨_, _, h1, h2⟩ := hP
  exact ⟨by omega, by omega⟩
theorem own_pc (hP : NP len ps) : cap4 (((ps - (1 : Int32)) >>> ((6 : Int32) &&& 31)) + (1 : Int32)) := by
  have h := own_pN hP
  have n0 : ¬ (((ps - (1 : Int32)) >>> ((6 : Int32) &&& 31)) + (1 : Int32)) < (0 : Int32) := own_nlt0 (by have := h.1; omega)
  have nn := nat_of n0
  have := h.2
  exact ⟨n0, by omega⟩
theorem own_pkt (hP : NP len ps) (hs : SL sl ps np) : ((own_lr sl (ps.toInt64)).toInt32).toInt = sl.toInt % ps.toInt ∧ 0 ≤ sl.toInt % ps.toInt ∧ sl.toInt % ps.toInt < ps.toInt := by
  obtain ⟨_, _, h1, h2⟩ := hP
  have d := own_rem2 (x := sl) (y := ps.toInt64) hs.1
  rw [c_i2l] at d
  have e0 := Int.emod_nonneg sl.toInt (show ps.toInt ≠ 0 by omega)
  have e1 := Int.emod_lt_of_pos sl.toInt (show 0 < ps.toInt by omega)
  exact ⟨by rw [own_l2i (by omega) (by omega), d], e0, e1⟩
theorem own_pk (hP : NP len ps) (hs : SL sl ps np) : 0 ≤ ((own_lr sl (ps.toInt64)).toInt32).toInt ∧ ((own_lr sl (ps.toInt64)).toInt32).toInt < ps.toInt := by have := own_pkt hP hs; omega
theorem own_pcp (hP : NP len ps) (hs : SL sl ps np) : cpOK (((own_lr sl (ps.toInt64)).toInt32) * len) len (ps * len) := by
  have hk := own_pk hP hs
  have hm := own_mul hP
  generalize (own_lr sl (ps.toInt64)).toInt32 = k at hk
  obtain ⟨h3, h4, h1, h2⟩ := hP
  have m := c_imul k len
  have r := rng32 (k * len)
  have p1 : 0 ≤ k.toInt * len.toInt := Int.mul_nonneg hk.1 h3
  have p2 : (k.toInt + 1) * len.toInt ≤ ps.toInt * len.toInt := Int.mul_le_mul_of_nonneg_right (by omega) h3
  rw [Int.add_mul, Int.one_mul] at p2
  have e1 : (k * len).toInt = k.toInt * len.toInt := by omega
  have a1 : ¬ (k * len) < (0 : Int32) := own_nlt0 (by omega)
  have a2 : ¬ len < (0 : Int32) := own_nlt0 h3
  have a3 : ¬ (ps * len) < (0 : Int32) := own_nlt0 (by omega)
  have b1 := nat_of a1
  have b2 := nat_of a2
  have b3 := nat_of a3
  have z0 : (0 : Int32).toNatClampNeg = 0 := by decide
  have z64 : (64 : Int32).toNatClampNeg = 64 := by decide
  exact ⟨a1, a2, by omega, by omega⟩
theorem own_pix (hP : NP len ps) (hs : SL sl ps np) : 0 ≤ ((own_lr sl (ps.toInt64)).toInt32).toInt ∧ ((own_lr sl (ps.toInt64)).toInt32).toInt < 64 * (((ps - (1 : Int32)) >>> ((6 : Int32) &&& 31)) + (1 : Int32)).toInt := by
  have h := own_nwt hP
  have hk := own_pk hP hs
  omega
theorem own_ru0 (h : NW n) : RU (0 : Int32) n := ⟨by rw [own_i0]; omega, by rw [own_i0]; have := h.1; omega⟩
theorem own_inip (hS : 1 ≤ s.toInt ∧ s.toInt ≤ 65536) : ((own_minL (256 : Int64) s).toInt32).toInt = min 256 s.toInt := by
  have m := own_minL_toInt 256 s
  rw [show (256 : Int64).toInt = 256 from by decide] at m
  rw [own_l2i (by omega) (by omega), m]
theorem own_inix (hS : 1 ≤ s.toInt ∧ s.toInt ≤ 65536) : (((s + (((own_minL (256 : Int64) s).toInt32).toInt64)) - (1 : Int64)) / (((own_minL (256 : Int64) s).toInt32).toInt64)).toInt = (s.toInt + min 256 s.toInt - 1) / min 256 s.toInt := by
  have h := own_inip hS
  have c := c_i2l (own_minL (256 : Int64) s).toInt32
  generalize (own_minL (256 : Int64) s).toInt32 = p at h c
  have t1 : (1 : Int64).toInt = 1 := by decide
  have a1 := own_la (x := s) (y := p.toInt64) (by omega) (by omega)
  have a2 := own_ls (x := s + p.toInt64) (y := 1) (by omega) (by omega)
  rw [own_div (by omega) (by omega), a2, a1, c, h, t1]
theorem own_inib (hS : 1 ≤ s.toInt ∧ s.toInt ≤ 65536) (h1 : ps.toInt = min 256 s.toInt) (h2 : np.toInt = (s.toInt + ps.toInt - 1) / ps.toInt) : (s.toInt ≤ 256 ∧ ps.toInt = s.toInt ∧ np.toInt = 1) ∨ (256 < s.toInt ∧ ps.toInt = 256 ∧ np.toInt = (s.toInt + 255) / 256) := by
  by_cases c : s.toInt ≤ 256
  · have e : ps.toInt = s.toInt := by omega
    refine Or.inl ⟨c, e, ?_⟩
    rw [h2, e, show s.toInt + s.toInt - 1 = (s.toInt - 1) + 1 * s.toInt by omega, Int.add_mul_ediv_right _ _ (by omega), Int.ediv_eq_zero_of_lt (by omega) (by omega)]
    rfl
  · have e : ps.toInt = 256 := by omega
    refine Or.inr ⟨by omega, e, ?_⟩
    rw [h2, e, show s.toInt + 256 - 1 = s.toInt + 255 by omega]
theorem own_ini0 (hS : 1 ≤ s.toInt ∧ s.toInt ≤ 65536) : ¬ (((own_minL (256 : Int64) s).toInt32).toInt64) = (0 : Int64) := fun z => by
  have h := own_inip hS
  have c := c_i2l (own_minL (256 : Int64) s).toInt32
  rw [z, show (0 : Int64).toInt = 0 from by decide] at c
  omega
theorem own_ini3 (hS : 1 ≤ s.toInt ∧ s.toInt ≤ 65536) : IN s ((own_minL (256 : Int64) s).toInt32) ((((s + (((own_minL (256 : Int64) s).toInt32).toInt64)) - (1 : Int64)) / (((own_minL (256 : Int64) s).toInt32).toInt64)).toInt32) := by
  have h := own_inip hS
  have x := own_inix hS
  have b : 0 ≤ (s.toInt + min 256 s.toInt - 1) / min 256 s.toInt := Int.ediv_nonneg (by omega) (by omega)
  have b2 : (s.toInt + min 256 s.toInt - 1) / min 256 s.toInt ≤ s.toInt + min 256 s.toInt - 1 := Int.ediv_le_self _ (by omega)
  refine ⟨h, ?_⟩
  rw [own_l2i (by omega) (by omega), x, h]
theorem own_inin (hS : 1 ≤ s.toInt ∧ s.toInt ≤ 65536) (h : IN s ps np) : 1 ≤ np.toInt ∧ np.toInt ≤ 256 := by
  have := own_inib hS h.1 h.2
  omega
theorem own_ini1 (hS : 1 ≤ s.toInt ∧ s.toInt ≤ 65536) : (((((s + (((own_minL (256 : Int64) s).toInt32).toInt64)) - (1 : Int64)) / (((own_minL (256 : Int64) s).toInt32).toInt64)).toInt32).toInt64) = (((s + (((own_minL (256 : Int64) s).toInt32).toInt64)) - (1 : Int64)) / (((own_minL (256 : Int64) s).toInt32).toInt64)) := by
  apply Int64.toInt_inj.mp
  have x := own_inix hS
  have b : 0 ≤ (s.toInt + min 256 s.toInt - 1) / min 256 s.toInt := Int.ediv_nonneg (by omega) (by omega)
  have b2 : (s.toInt + min 256 s.toInt - 1) / min 256 s.toInt ≤ s.toInt + min 256 s.toInt - 1 := Int.ediv_le_self _ (by omega)
  rw [c_i2l, own_l2i (by omega) (by omega)]
theorem own_ini2 (hS : 1 ≤ s.toInt ∧ s.toInt ≤ 65536) : capP ((((s + (((own_minL (256 : Int64) s).toInt32).toInt64)) - (1 : Int64)) / (((own_minL (256 : Int64) s).toInt32).toInt64)).toInt32) := by
  have h := own_inin hS (own_ini3 hS)
  have n0 := own_nlt0 (x := (((s + (((own_minL (256 : Int64) s).toInt32).toInt64)) - (1 : Int64)) / (((own_minL (256 : Int64) s).toInt32).toInt64)).toInt32) (by omega)
  have nn := nat_of n0
  exact ⟨n0, by omega⟩
theorem own_gi (hk : 0 ≤ k.toInt) (hc : (k >>> ((6 : Int32) &&& 31)) < u) (hU : RU u n) : ¬ (k >>> ((6 : Int32) &&& 31)) < (0 : Int32) ∧ (k >>> ((6 : Int32) &&& 31)) < n := by
  have h := own_sh6 k
  have c := own_of_lt hc
  obtain ⟨u1, u2⟩ := hU
  exact ⟨own_nlt0 (by omega), own_lt (by omega)⟩
theorem own_si (hk : 0 ≤ k.toInt ∧ k.toInt < 64 * n.toInt) : 0 ≤ (k >>> ((6 : Int32) &&& 31)).toInt ∧ (k >>> ((6 : Int32) &&& 31)).toInt < n.toInt := by have := own_sh6 k; omega
theorem own_sib (hk : 0 ≤ k.toInt ∧ k.toInt < 64 * n.toInt) : ¬ (k >>> ((6 : Int32) &&& 31)) < (0 : Int32) ∧ (k >>> ((6 : Int32) &&& 31)) < n := ⟨own_nlt0 (own_si hk).1, own_lt (own_si hk).2⟩
theorem own_a1 (h1 : -1 ≤ i.toInt) (h2 : i.toInt ≤ 1000) : (i + (1 : Int32)).toInt = i.toInt + 1 := by
  have t1 : (1 : Int32).toInt = 1 := by decide
  rw [own_ad (by omega) (by omega), t1]
theorem own_s1' (h1 : -1 ≤ i.toInt) (h2 : i.toInt ≤ 1000) : (i - (1 : Int32)).toInt = i.toInt - 1 := by
  have t1 : (1 : Int32).toInt = 1 := by decide
  rw [own_sb (by omega) (by omega), t1]
theorem own_ec (hi : 0 ≤ i.toInt ∧ i.toInt < n.toInt) (hN : NW n) : ¬ n < (i + (1 : Int32)) := by
  have := hN.2
  have a := own_a1 (i := i) (by omega) (by omega)
  exact own_nlt (by omega)
theorem own_ex (hi : 0 ≤ i.toInt ∧ i.toInt < n.toInt) (hN : NW n) : RU (i + (1 : Int32)) n := by
  have := hN.2
  have a := own_a1 (i := i) (by omega) (by omega)
  exact ⟨by omega, by omega⟩
theorem own_len0 (hz : 1 ≤ u.toInt) : ¬ u = (0 : Int32) := fun z => by rw [z, own_i0] at hz; omega
theorem own_lenb (hz : 1 ≤ u.toInt) (hU : RU u n) : ¬ (u - (1 : Int32)) < (0 : Int32) ∧ (u - (1 : Int32)) < n := by
  obtain ⟨u1, u2⟩ := hU
  have r := rng32 n
  have t1 : (1 : Int32).toInt = 1 := by decide
  have a := own_sb (x := u) (y := 1) (by omega) (by omega)
  exact ⟨own_nlt0 (by omega), own_lt (by omega)⟩
theorem own_rc0 (hU : RU u n) (hN : NW n) : RCk (u - (1 : Int32)) u 0 := by
  obtain ⟨u1, u2⟩ := hU
  have := hN.2
  have a := own_s1' (i := u) (by omega) (by omega)
  exact ⟨by omega, by omega, by omega⟩
theorem own_rcS {k : Int} (h : RCk e u k) (hc : ¬ e < (0 : Int32)) : RCk (e + (-1 : Int32)) u (k + 1) := by
  obtain ⟨h1, h2, h3⟩ := h
  have c := own_of_nlt0 hc
  have t1 : (-1 : Int32).toInt = -1 := by decide
  have r := rng32 e
  have a := own_ad (x := e) (y := -1) (by omega) (by omega)
  exact ⟨by omega, by omega, by omega⟩
theorem own_rc4 {k : Int} (h : RCk e u k) (hN : NW n) (hU : RU u n) (hk : 4 ≤ k := by decide) : e < (0 : Int32) := own_lt (by rw [own_i0]; have := h.2.2; omega)
theorem own_rcb {k : Int} (h : RCk e u k) (hc : ¬ e < (0 : Int32)) (hU : RU u n) : ¬ e < (0 : Int32) ∧ e < n := ⟨hc, own_lt (by have := h.1; have := hU.2; omega)⟩
theorem own_rcE {k : Int} (h : RCk e u k) (hU : RU u n) : RU (e + (1 : Int32)) n := by
  obtain ⟨h1, h2, h3⟩ := h
  obtain ⟨u1, u2⟩ := hU
  have t1 : (1 : Int32).toInt = 1 := by decide
  have r := rng32 u
  have a := own_ad (x := e) (y := 1) (by omega) (by omega)
  exact ⟨by omega, by omega⟩
theorem own_cl0 (hr : 0 ≤ a.toInt ∧ a.toInt < b.toInt ∧ b.toInt ≤ 256) : ¬ a = b := fun z => by rw [z] at hr; omega
theorem own_cls (hr : 0 ≤ a.toInt ∧ a.toInt < b.toInt ∧ b.toInt ≤ 256) (hc : (a >>> ((6 : Int32) &&& 31)) < u) : 0 ≤ (a >>> ((6 : Int32) &&& 31)).toInt ∧ (a >>> ((6 : Int32) &&& 31)).toInt < u.toInt := by
  have h := own_sh6 a
  have c := own_of_lt hc
  omega
theorem own_cle (hr : 0 ≤ a.toInt ∧ a.toInt < b.toInt ∧ b.toInt ≤ 256) (hs : 0 ≤ (a >>> ((6 : Int32) &&& 31)).toInt ∧ (a >>> ((6 : Int32) &&& 31)).toInt < u.toInt) (hc : ((b - (1 : Int32)) >>> ((6 : Int32) &&& 31)) < u) : (a >>> ((6 : Int32) &&& 31)).toInt ≤ ((b - (1 : Int32)) >>> ((6 : Int32) &&& 31)).toInt ∧ ((b - (1 : Int32)) >>> ((6 : Int32) &&& 31)).toInt < u.toInt := by
  have h := own_sh6 a
  have h2 := own_sh6 (b - 1)
  have s := own_s1' (i := b) (by omega) (by omega)
  have c := own_of_lt hc
  omega
theorem own_cleu (hs : 0 ≤ (a >>> ((6 : Int32) &&& 31)).toInt ∧ (a >>> ((6 : Int32) &&& 31)).toInt < u.toInt) (hU : RU u n) (hN : NW n) : (a >>> ((6 : Int32) &&& 31)).toInt ≤ (u - (1 : Int32)).toInt ∧ (u - (1 : Int32)).toInt < u.toInt := by
  have := hN.2
  have := hU.2
  have s := own_s1' (i := u) (by omega) (by omega)
  omega
theorem own_clz (hs : 0 ≤ x.toInt ∧ x.toInt < u.toInt) : 1 ≤ u.toInt := by omega
theorem own_clis (hs : 0 ≤ x.toInt ∧ x.toInt < u.toInt) (hU : RU u n) : ¬ x < (0 : Int32) ∧ x < n := ⟨own_nlt0 hs.1, own_lt (by have := hU.2; omega)⟩
theorem own_clie (hs : 0 ≤ x.toInt ∧ x.toInt < u.toInt) (he : x.toInt ≤ y.toInt ∧ y.toInt < u.toInt) (hU : RU u n) : ¬ y < (0 : Int32) ∧ y < n := ⟨own_nlt0 (by omega), own_lt (by have := hU.2; omega)⟩
theorem own_clil1 (hs : 0 ≤ x.toInt ∧ x.toInt < u.toInt) (he : x.toInt ≤ y.toInt ∧ y.toInt < u.toInt) (hc : (x + (1 : Int32)) < y) (hU : RU u n) (hN : NW n) : ¬ (x + (1 : Int32)) < (0 : Int32) ∧ (x + (1 : Int32)) < n := by
  have := hN.2
  have := hU.2
  have a := own_a1 (i := x) (by omega) (by omega)
  have c := own_of_lt hc
  exact ⟨own_nlt0 (by omega), own_lt (by omega)⟩
theorem own_clil2 (hs : 0 ≤ x.toInt ∧ x.toInt < u.toInt) (he : x.toInt ≤ y.toInt ∧ y.toInt < u.toInt) (hc : ((x + (1 : Int32)) + (1 : Int32)) < y) (hU : RU u n) (hN : NW n) : ¬ ((x + (1 : Int32)) + (1 : Int32)) < (0 : Int32) ∧ ((x + (1 : Int32)) + (1 : Int32)) < n := by
  have := hN.2
  have := hU.2
  have a := own_a1 (i := x) (by omega) (by omega)
  have a2 := own_a1 (i := x + 1) (by omega) (by omega)
  have c := own_of_lt hc
  exact ⟨own_nlt0 (by omega), own_lt (by omega)⟩
theorem own_cl3 (he : x.toInt ≤ y.toInt ∧ y.toInt < u.toInt) (hs : 0 ≤ x.toInt ∧ x.toInt < u.toInt) (hU : RU u n) (hN : NW n) : ¬ (((x + (1 : Int32)) + (1 : Int32)) + (1 : Int32)) < y := by
  have := hN.2
  have := hU.2
  have a := own_a1 (i := x) (by omega) (by omega)
  have a2 := own_a1 (i := x + 1) (by omega) (by omega)
  have a3 := own_a1 (i := x + 1 + 1) (by omega) (by omega)
  exact own_nlt (by omega)
theorem own_nx0 (hf : 0 ≤ f.toInt ∧ f.toInt ≤ 256) (hc : (f >>> ((6 : Int32) &&& 31)) < u) : NXk (f >>> ((6 : Int32) &&& 31)) f u 0 := by
  have h := own_sh6 f
  have c := own_of_lt hc
  exact ⟨by omega, by omega⟩
theorem own_nxS {k : Int} (h : NXk v f u k) (hc : ¬ (v + (1 : Int32)) = u) (hU : RU u n) (hN : NW n) : NXk (v + (1 : Int32)) f u (k + 1) := by
  obtain ⟨h1, h2⟩ := h
  have := hN.2
  have := hU.2
  have t1 : (1 : Int32).toInt = 1 := by decide
  have r := rng32 v
  have a := own_ad (x := v) (y := 1) (by omega) (by omega)
  have c : (v + (1 : Int32)).toInt ≠ u.toInt := fun z => hc (Int32.toInt_inj.mp z)
  exact ⟨by omega, by omega⟩
theorem own_nx4 {k : Int} (h : NXk v f u k) (hf : 0 ≤ f.toInt ∧ f.toInt ≤ 256) (hU : RU u n) (hN : NW n) (hk : 3 ≤ k := by decide) : (v + (1 : Int32)) = u := by
  obtain ⟨h1, h2⟩ := h
  have := hN.2
  have := hU.2
  have t1 : (1 : Int32).toInt = 1 := by decide
  have r := rng32 v
  have a := own_ad (x := v) (y := 1) (by omega) (by omega)
  exact Int32.toInt_inj.mp (by omega)
theorem own_nxb {k : Int} (h : NXk v f u k) (hf : 0 ≤ f.toInt ∧ f.toInt ≤ 256) (hU : RU u n) (hk : 0 ≤ k := by decide) : ¬ v < (0 : Int32) ∧ v < n := by
  obtain ⟨h1, h2⟩ := h
  have := hU.2
  exact ⟨own_nlt0 (by omega), own_lt (by omega)⟩
theorem own_nxl {k : Int} (h : NXk v f u k) (hk : 1 ≤ k := by decide) : f.toInt / 64 < v.toInt := by have := h.1; omega
theorem own_nxu {k : Int} (h : NXk v f u k) (hU : RU u n) (hN : NW n) : v.toInt ≤ 8 := by have := h.2; have := hU.2; have := hN.2; omega
theorem own_fk {k : Nat} (h1 : ¬ i < (0 : Int32)) (h2 : i < e) (hk : i.toInt < 0 ∨ e.toInt - i.toInt ≤ (k : Int)) : 1 ≤ k := by have := own_of_nlt0 h1; have := own_of_lt h2; omega
theorem own_fi {k : Nat} (h1 : ¬ i < (0 : Int32)) (h2 : i < e) (he : e.toInt ≤ 256) (hk : i.toInt < 0 ∨ e.toInt - i.toInt ≤ (k : Int)) (hr : r.toInt = -1 ∨ (i + (1 : Int32)).toInt ≤ r.toInt) : (r.toInt = -1 ∨ 0 ≤ r.toInt) ∧ (r.toInt < 0 ∨ e.toInt - r.toInt ≤ ((k - 1 : Nat) : Int)) := by
  have c1 := own_of_nlt0 h1
  have c2 := own_of_lt h2
  have a := own_a1 (i := i) (by omega) (by omega)
  omega
theorem own_fr (h1 : ¬ i < (0 : Int32)) (h2 : i < e) (he : e.toInt ≤ 256) : 0 ≤ (i + (1 : Int32)).toInt ∧ (i + (1 : Int32)).toInt ≤ 256 := by
  have c1 := own_of_nlt0 h1
  have c2 := own_of_lt h2
  have a := own_a1 (i := i) (by omega) (by omega)
  omega
theorem own_fl {x y : Int64} (h : x < y) : x.toInt < y.toInt := Int64.lt_iff_toInt_lt.mp h
theorem own_fg (hf : 0 ≤ q.toInt ∧ q.toInt ≤ t.toInt) (hc : q < t) (hP : NP len ps) (hT : FT t ps np) (ha : a = ((own_lr q (ps.toInt64)).toInt32)) (hb : b = ((own_minL (ps.toInt64) ((a.toInt64) + (t - q))).toInt32)) : SE a b q t := by
  have c := own_fl hc
  obtain ⟨_, _, h1, h2⟩ := hP
  obtain ⟨t1, t2, _, _⟩ := hT
  have d := own_rem2 (x := q) (y := ps.toInt64) hf.1
  rw [c_i2l] at d
  have e0 := Int.emod_nonneg q.toInt (show ps.toInt ≠ 0 by omega)
  have e1 := Int.emod_lt_of_pos q.toInt (show 0 < ps.toInt by omega)
  have at' : a.toInt = q.toInt % ps.toInt := by rw [ha, own_l2i (by omega) (by omega), d]
  have al := c_i2l a
  have pl := c_i2l ps
  have s1 := own_ls (x := t) (y := q) (by omega) (by omega)
  have s2 := own_la (x := a.toInt64) (y := t - q) (by omega) (by omega)
  have m := own_minL_toInt (ps.toInt64) ((a.toInt64) + (t - q))
  have bt : b.toInt = min ps.toInt (a.toInt + (t.toInt - q.toInt)) := by rw [hb, own_l2i (by omega) (by omega), m, pl, s2, al, s1]
  exact ⟨by omega, by omega, by omega, by omega⟩
theorem own_fn (h : SE a b q t) : b.toInt ≤ 256 := h.2.2.1
theorem own_fq (h : SE a b q t) (hr : r.toInt = -1 ∨ a.toInt ≤ r.toInt) : r.toInt = -1 ∨ 0 ≤ r.toInt := by have := h.1; omega
theorem own_fz (h : SE a b q t) (hr : r.toInt = -1 ∨ a.toInt ≤ r.toInt) : r.toInt < 0 ∨ b.toInt - r.toInt ≤ ((257 : Nat) : Int) := by have := h.1; have := h.2.2.1; omega
theorem own_ff (h : SE a b q t) : 0 ≤ a.toInt ∧ a.toInt ≤ 256 := ⟨h.1, by have := h.2.1; have := h.2.2.1; omega⟩
theorem own_fc (h : SE a b q t) : 0 ≤ a.toInt ∧ a.toInt < b.toInt ∧ b.toInt ≤ 256 := ⟨h.1, h.2.1, h.2.2.1⟩
theorem own_fg2 (hf : 0 ≤ q.toInt ∧ q.toInt ≤ t.toInt) (hc : q < t) (hP : NP len ps) (hT : FT t ps np) (h : SE a b q t) (hv : q' = (q + ((b - a).toInt64))) : (0 ≤ q'.toInt ∧ q'.toInt ≤ t.toInt) ∧ q.toInt < q'.toInt := by
  obtain ⟨h1, h2, h3, h4⟩ := h
  obtain ⟨t1, t2, _, _⟩ := hT
  have s := own_sb (x := b) (y := a) (by omega) (by omega)
  have c := c_i2l (b - a)
  have l := own_la (x := q) (y := (b - a).toInt64) (by omega) (by omega)
  rw [hv]
  omega
theorem own_fs {k : Nat} (h : (0 ≤ q'.toInt ∧ q'.toInt ≤ t.toInt) ∧ q.toInt < q'.toInt) (hf : 0 ≤ q.toInt ∧ q.toInt ≤ t.toInt) (hk : t.toInt - q.toInt ≤ (k : Int)) : (0 ≤ q'.toInt ∧ q'.toInt ≤ t.toInt) ∧ t.toInt - q'.toInt ≤ ((k - 1 : Nat) : Int) := ⟨h.1, by omega⟩
theorem own_fk1 {k : Nat} (hf : 0 ≤ q.toInt ∧ q.toInt ≤ t.toInt) (hc : q < t) (hk : t.toInt - q.toInt ≤ (k : Int)) : 1 ≤ k := by have := own_fl hc; omega
theorem own_f0 (hT : FT t ps np) : 0 ≤ (0 : Int64).toInt ∧ (0 : Int64).toInt ≤ t.toInt := by rw [show (0 : Int64).toInt = 0 from by decide]; have := hT.1; omega
theorem own_f1 (hT : FT t ps np) : t.toInt - (0 : Int64).toInt ≤ (t.toInt.toNat : Int) := by rw [show (0 : Int64).toInt = 0 from by decide]; have := hT.1; omega
theorem own_fj (hf : 0 ≤ q.toInt ∧ q.toInt ≤ t.toInt) (hc : q < t) (hP : NP len ps) (hT : FT t ps np) : ¬ ((q / (ps.toInt64)).toInt32) < (0 : Int32) ∧ ((q / (ps.toInt64)).toInt32) < np := by
  have c := own_fl hc
  exact own_pj hP ⟨hf.1, Int.ediv_lt_of_lt_mul (by have := hP.2.2.1; omega) (by have := hT.2.2.1; omega), hT.2.2.2⟩
end M2
section M3
variable {len ps np : Int32} {s t a b p w d v v1 v2 v3 v4 : Int64}
theorem own_LS (h : v = ((p &&& (65535 : Int64)) + (1 : Int64))) : 1 ≤ v.toInt ∧ v.toInt ≤ 65536 := by
  have m := c_maskL p 65535 16 (by decide) (by decide)
  have t1 : (1 : Int64).toInt = 1 := by decide
  have a := own_la (x := p &&& 65535) (y := 1) (by omega) (by omega)
  rw [h, a]
  omega
theorem own_L0 (h : 1 ≤ v.toInt ∧ v.toInt ≤ 65536) : ¬ v = (0 : Int64) := fun z => by rw [z, show (0 : Int64).toInt = 0 from by decide] at h; omega
theorem own_Ll {l x : Int32} (h : x = (l &&& (63 : Int32))) : 0 ≤ x.toInt ∧ x.toInt ≤ 63 := by
  have m := c_mask l 63 6 (by decide) (by decide)
  rw [h]
  omega
theorem own_La (hS : 1 ≤ s.toInt ∧ s.toInt ≤ 65536) (h : v = (own_lr (p &&& (9223372036854775807 : Int64)) s)) : 0 ≤ v.toInt ∧ v.toInt < s.toInt := by
  have m := c_maskL p 9223372036854775807 63 (by decide) (by decide)
  have d := own_rem2 (x := p &&& 9223372036854775807) (y := s) (by omega)
  have e0 := Int.emod_nonneg (p &&& 9223372036854775807 : Int64).toInt (show s.toInt ≠ 0 by omega)
  have e1 := Int.emod_lt_of_pos (p &&& 9223372036854775807 : Int64).toInt (show 0 < s.toInt by omega)
  rw [h, d]
  exact ⟨e0, e1⟩
theorem own_LP (hl : 0 ≤ len.toInt ∧ len.toInt ≤ 63) (hS : 1 ≤ s.toInt ∧ s.toInt ≤ 65536) (h : IN s ps np) : NP len ps := by
  have := own_inib hS h.1 h.2
  exact ⟨hl.1, hl.2, by omega, by omega⟩
theorem own_LSL (hS : 1 ≤ s.toInt ∧ s.toInt ≤ 65536) (h : IN s ps np) (ha : 0 ≤ a.toInt ∧ a.toInt < s.toInt) : SL a ps np := by
  have n := own_inin hS h
  refine ⟨ha.1, ?_, n.2⟩
  rcases own_inib hS h.1 h.2 with ⟨_, e1, e2⟩ | ⟨_, e1, e2⟩
  · rw [e1, e2, Int.ediv_eq_zero_of_lt ha.1 ha.2]; decide
  · rw [e1, e2]; omega
theorem own_LFT (hS : 1 ≤ s.toInt ∧ s.toInt ≤ 65536) (h : IN s ps np) : FT s ps np := by
  have n := own_inin hS h
  refine ⟨hS.1, hS.2, ?_, n.2⟩
  rcases own_inib hS h.1 h.2 with ⟨_, e1, e2⟩ | ⟨_, e1, e2⟩
  · rw [e1, e2]; omega
  · rw [e1, e2]; omega
theorem own_c256 (h : ¬ (256 : Int64) < s) : s.toInt ≤ 256 := by rw [Int64.lt_iff_toInt_lt, show (256 : Int64).toInt = 256 from by decide] at h; omega
theorem own_d256 (h : (256 : Int64) < s) : 256 < s.toInt := by rw [Int64.lt_iff_toInt_lt, show (256 : Int64).toInt = 256 from by decide] at h; exact h
theorem own_q256 (ha : 0 ≤ a.toInt ∧ a.toInt < s.toInt) : (a / (256 : Int64)).toInt = a.toInt / 256 := own_div ha.1 (by decide)
theorem own_Lj (hS : 1 ≤ s.toInt ∧ s.toInt ≤ 65536) (h : IN s ps np) (ha : 0 ≤ a.toInt ∧ a.toInt < s.toInt) : ((a / (ps.toInt64)).toInt32).toInt = a.toInt / ps.toInt := own_pjt (own_LP (len := 0) (by decide) hS h) (own_LSL hS h ha)
theorem own_Lj1 (hS : 1 ≤ s.toInt ∧ s.toInt ≤ 65536) (h : IN s ps np) (ha : 0 ≤ a.toInt ∧ a.toInt < s.toInt) (hb : 0 ≤ b.toInt ∧ b.toInt < s.toInt) (hc : ¬ (256 : Int64) < s ∨ ((256 : Int64) < s ∧ (a / (256 : Int64)) = (b / (256 : Int64)))) : ((b / (ps.toInt64)).toInt32) = ((a / (ps.toInt64)).toInt32) := by
  apply Int32.toInt_inj.mp
  rw [own_Lj hS h ha, own_Lj hS h hb]
  rcases own_inib hS h.1 h.2 with ⟨c, e1, e2⟩ | ⟨c, e1, e2⟩
  · rw [e1, Int.ediv_eq_zero_of_lt ha.1 ha.2, Int.ediv_eq_zero_of_lt hb.1 hb.2]
  · rcases hc with hc | ⟨_, hc⟩
    · have := own_c256 hc; omega
    · have q := congrArg Int64.toInt hc
      rw [own_q256 ha, own_q256 hb] at q
      rw [e1, q]
theorem own_Lj2 (hS : 1 ≤ s.toInt ∧ s.toInt ≤ 65536) (h : IN s ps np) (ha : 0 ≤ a.toInt ∧ a.toInt < s.toInt) (hb : 0 ≤ b.toInt ∧ b.toInt < s.toInt) (hd : (256 : Int64) < s) (hc : ¬ (a / (256 : Int64)) = (b / (256 : Int64))) : ¬ ((b / (ps.toInt64)).toInt32) = ((a / (ps.toInt64)).toInt32) := fun z => by
  have q := congrArg Int32.toInt z
  rw [own_Lj hS h ha, own_Lj hS h hb] at q
  have d := own_d256 hd
  rcases own_inib hS h.1 h.2 with ⟨c, e1, e2⟩ | ⟨c, e1, e2⟩
  · omega
  · rw [e1] at q
    exact hc (Int64.toInt_inj.mp (by rw [own_q256 ha, own_q256 hb, q]))
/-- what bytes() tells, and what the law reckons, as whole numbers -/
theorem own_Lby (hS : 1 ≤ s.toInt ∧ s.toInt ≤ 65536) (h : IN s ps np) (hP : NP len ps) (k : Int64) (hk : 0 ≤ k.toInt ∧ k.toInt ≤ 2) :
    (((np.toInt64) * (8 : Int64)) + (k * ((((ps.toInt64) * (len.toInt64)) + ((ps / (8 : Int32)).toInt64)) + (64 : Int64)))).toInt = np.toInt * 8 + k.toInt * (ps.toInt * len.toInt + ps.toInt / 8 + 64) := by
  have n := own_inin hS h
  have m := own_mul hP
  obtain ⟨l1, l2, p1, p2⟩ := hP
  have cn := c_i2l np
  have cp := c_i2l ps
  have cl := c_i2l len
  have c8 := c_i2l (ps / 8)
  have t8 : (8 : Int64).toInt = 8 := by decide
  have t64 : (64 : Int64).toInt = 64 := by decide
  have d8 := (c_idiv ps 8 8 (by decide) (by decide)).1 (by omega)
  have a1 := Jvm.Kit.i64_mul (x := np.toInt64) (y := 8) (by rw [cn, t8]; omega) (by rw [cn, t8]; omega)
  rw [cn, t8] at a1
  have a2 := Jvm.Kit.i64_mul (x := ps.toInt64) (y := len.toInt64) (by rw [cp, cl]; omega) (by rw [cp, cl]; omega)
  rw [cp, cl] at a2
  have a3 := own_la (x := (ps.toInt64) * (len.toInt64)) (y := (ps / (8 : Int32)).toInt64) (by omega) (by omega)
  have a4 := own_la (x := ((ps.toInt64) * (len.toInt64)) + ((ps / (8 : Int32)).toInt64)) (y := 64) (by omega) (by omega)
  have e4 : ((((ps.toInt64) * (len.toInt64)) + ((ps / (8 : Int32)).toInt64)) + (64 : Int64)).toInt = ps.toInt * len.toInt + ps.toInt / 8 + 64 := by omega
  generalize (((ps.toInt64) * (len.toInt64)) + ((ps / (8 : Int32)).toInt64)) + (64 : Int64) = C at e4
  have b0 : 0 ≤ C.toInt := by omega
  have b1 : C.toInt ≤ 20000 := by omega
  have kb : 0 ≤ k.toInt * C.toInt := Int.mul_nonneg hk.1 b0
  have kc : k.toInt * C.toInt ≤ 2 * 20000 := Int.mul_le_mul hk.2 b1 b0 (by decide)
  have a5 := Jvm.Kit.i64_mul (x := k) (y := C) (by omega) (by omega)
  have a6 := own_la (x := (np.toInt64) * (8 : Int64)) (y := k * C) (by omega) (by omega)
  rw [a6, a1, a5, e4]
theorem own_Lco (hS : 1 ≤ s.toInt ∧ s.toInt ≤ 65536) (h : IN s ps np) (hP : NP len ps) (hv : v = (((w * (len.toInt64)) + d) + (64 : Int64))) (hw : w.toInt = ps.toInt) (d8 : d.toInt = ps.toInt / 8) : v.toInt = ps.toInt * len.toInt + ps.toInt / 8 + 64 := by
  have m := own_mul hP
  obtain ⟨l1, l2, p1, p2⟩ := hP
  have cl := c_i2l len
  have t64 : (64 : Int64).toInt = 64 := by decide
  have a2 := Jvm.Kit.i64_mul (x := w) (y := len.toInt64) (by rw [hw, cl]; omega) (by rw [hw, cl]; omega)
  rw [hw, cl] at a2
  have a3 := own_la (x := w * (len.toInt64)) (y := d) (by omega) (by omega)
  have a4 := own_la (x := (w * (len.toInt64)) + d) (y := 64) (by omega) (by omega)
  rw [hv]
  omega
theorem own_Lps (hS : 1 ≤ s.toInt ∧ s.toInt ≤ 65536) (h : IN s ps np) (hw : (¬ (256 : Int64) < s ∧ w = s ∧ d = w / (8 : Int64)) ∨ ((256 : Int64) < s ∧ w = (256 : Int64) ∧ d = (32 : Int64))) : w.toInt = ps.toInt ∧ d.toInt = ps.toInt / 8 := by
  have t := own_inib hS h.1 h.2
  rcases hw with ⟨c, rfl, rfl⟩ | ⟨c, rfl, rfl⟩
  · have := own_c256 c
    have e := own_div (x := w) (y := 8) (by omega) (by decide)
    rw [show (8 : Int64).toInt = 8 from by decide] at e
    omega
  · have := own_d256 c
    have z : (256 : Int64).toInt = 256 := by decide
    have z2 : (32 : Int64).toInt = 32 := by decide
    omega
theorem own_Lb0 (hS : 1 ≤ s.toInt ∧ s.toInt ≤ 65536) (h : IN s ps np) (hv : v = (((np.toInt64) * (8 : Int64)) + ((0 : Int64) * ((((ps.toInt64) * (len.toInt64)) + ((ps / (8 : Int32)).toInt64)) + (64 : Int64))))) (hw : (¬ (256 : Int64) < s ∧ w = (1 : Int64)) ∨ ((256 : Int64) < s ∧ w = (((s - (1 : Int64)) / (256 : Int64)) + (1 : Int64)))) : v = (w * (8 : Int64)) := by
  apply Int64.toInt_inj.mp
  have n := own_inin hS h
  have t := own_inib hS h.1 h.2
  have t1 : (1 : Int64).toInt = 1 := by decide
  have t8 : (8 : Int64).toInt = 8 := by decide
  have cn := c_i2l np
  have a1 := Jvm.Kit.i64_mul (x := np.toInt64) (y := 8) (by rw [cn, t8]; omega) (by rw [cn, t8]; omega)
  rw [cn, t8] at a1
  have wt : w.toInt = np.toInt := by
    rcases hw with ⟨c, rfl⟩ | ⟨c, rfl⟩
    · have := own_c256 c; omega
    · have := own_d256 c
      have s1 := own_ls (x := s) (y := 1) (by omega) (by omega)
      have s2 := own_div (x := s - 1) (y := 256) (by omega) (by decide)
      rw [show (256 : Int64).toInt = 256 from by decide] at s2
      have s3 := own_la (x := (s - 1) / 256) (y := 1) (by omega) (by omega)
      omega
  have a2 := Jvm.Kit.i64_mul (x := w) (y := 8) (by rw [t8]; omega) (by rw [t8]; omega)
  rw [t8] at a2
  rw [hv, Int64.zero_mul, Int64.add_zero, a1, a2, wt]
theorem own_Lb1 (hS : 1 ≤ s.toInt ∧ s.toInt ≤ 65536) (h : IN s ps np) (hP : NP len ps) (h0 : v = (((np.toInt64) * (8 : Int64)) + ((0 : Int64) * ((((ps.toInt64) * (len.toInt64)) + ((ps / (8 : Int32)).toInt64)) + (64 : Int64))))) (h1 : v1 = (((np.toInt64) * (8 : Int64)) + ((1 : Int64) * ((((ps.toInt64) * (len.toInt64)) + ((ps / (8 : Int32)).toInt64)) + (64 : Int64))))) (hc : v2 = (((w * (len.toInt64)) + d) + (64 : Int64))) (hw : (¬ (256 : Int64) < s ∧ w = s ∧ d = w / (8 : Int64)) ∨ ((256 : Int64) < s ∧ w = (256 : Int64) ∧ d = (32 : Int64))) : v1 = (v + v2) := by
  apply Int64.toInt_inj.mp
  have n := own_inin hS h
  have m := own_mul hP
  have b0 := own_Lby hS h hP 0 (by decide)
  have b1 := own_Lby hS h hP 1 (by decide)
  rw [show (0 : Int64).toInt = 0 from by decide] at b0
  rw [show (1 : Int64).toInt = 1 from by decide] at b1
  rw [← h0] at b0
  rw [← h1] at b1
  have c := own_Lco hS h hP hc (own_Lps hS h hw).1 (own_Lps hS h hw).2
  have p1 := hP.2.2.1
  have p2 := hP.2.2.2
  rw [Int.zero_mul] at b0
  rw [Int.one_mul] at b1
  have a := own_la (x := v) (y := v2) (by omega) (by omega)
  omega
theorem own_Lb2 (hS : 1 ≤ s.toInt ∧ s.toInt ≤ 65536) (h : IN s ps np) (hP : NP len ps) (h0 : v = (((np.toInt64) * (8 : Int64)) + ((0 : Int64) * ((((ps.toInt64) * (len.toInt64)) + ((ps / (8 : Int32)).toInt64)) + (64 : Int64))))) (h1 : v1 = (((np.toInt64) * (8 : Int64)) + ((1 : Int64) * ((((ps.toInt64) * (len.toInt64)) + ((ps / (8 : Int32)).toInt64)) + (64 : Int64))))) (hc : v2 = (((w * (len.toInt64)) + d) + (64 : Int64))) (he : v3 = (v + v2)) (hw : (¬ (256 : Int64) < s ∧ w = s ∧ d = w / (8 : Int64)) ∨ ((256 : Int64) < s ∧ w = (256 : Int64) ∧ d = (32 : Int64))) : v1 = v3 := (own_Lb1 hS h hP h0 h1 hc hw).trans he.symm
theorem own_Lb3 (hS : 1 ≤ s.toInt ∧ s.toInt ≤ 65536) (h : IN s ps np) (hP : NP len ps) (h0 : v = (((np.toInt64) * (8 : Int64)) + ((0 : Int64) * ((((ps.toInt64) * (len.toInt64)) + ((ps / (8 : Int32)).toInt64)) + (64 : Int64))))) (h1 : v1 = (((np.toInt64) * (8 : Int64)) + ((2 : Int64) * ((((ps.toInt64) * (len.toInt64)) + ((ps / (8 : Int32)).toInt64)) + (64 : Int64))))) (hc : v2 = (((w * (len.toInt64)) + d) + (64 : Int64))) (he : v3 = (v + ((2 : Int64) * v2))) (hw : (¬ (256 : Int64) < s ∧ w = s ∧ d = w / (8 : Int64)) ∨ ((256 : Int64) < s ∧ w = (256 : Int64) ∧ d = (32 : Int64))) : v1 = v3 := by
  apply Int64.toInt_inj.mp
  have n := own_inin hS h
  have m := own_mul hP
  have b0 := own_Lby hS h hP 0 (by decide)
  have b1 := own_Lby hS h hP 2 (by decide)
  rw [show (0 : Int64).toInt = 0 from by decide] at b0
  rw [show (2 : Int64).toInt = 2 from by decide] at b1
  rw [← h0] at b0
  rw [← h1] at b1
  have c := own_Lco hS h hP hc (own_Lps hS h hw).1 (own_Lps hS h hw).2
  have p1 := hP.2.2.1
  have p2 := hP.2.2.2
  rw [Int.zero_mul] at b0
  have t2 : (2 : Int64).toInt = 2 := by decide
  have a0 := Jvm.Kit.i64_mul (x := 2) (y := v2) (by rw [t2]; omega) (by rw [t2]; omega)
  rw [t2] at a0
  have a := own_la (x := v) (y := 2 * v2) (by omega) (by omega)
  rw [he]
  omega
end M3
abbrev My1 : MethodName := ⟨"com/example/tributary/tributary/model/NodeHashes", "<init>", "(IJ)V"⟩
abbrev My3 : MethodName := ⟨"java/lang/Math", "min", "(JJ)J"⟩
abbrev My5 : MethodName := ⟨"com/example/tributary/tributary/model/NodeHashes", "bytes", "()J"⟩
abbrev My6 : MethodName := ⟨"com/example/tributary/tributary/model/NodeHashes", "put", "(J[B)V"⟩
abbrev My10 : MethodName := ⟨"java/util/BitSet", "wordIndex", "(I)I"⟩
abbrev My11 : MethodName := ⟨"java/util/BitSet", "get", "(I)Z"⟩
abbrev My12 : MethodName := ⟨"java/util/BitSet", "checkInvariants", "()V"⟩
abbrev My13 : MethodName := ⟨"java/util/BitSet", "set", "(I)V"⟩
abbrev My16 : MethodName := ⟨"com/example/tributary/tributary/model/NodeHashes", "forget", "(JJ)V"⟩
abbrev My17 : MethodName := ⟨"java/util/BitSet", "nextSetBit", "(I)I"⟩
abbrev My22 : MethodName := ⟨"java/util/BitSet", "recalculateWordsInUse", "()V"⟩
abbrev sC0 : String := "com/example/tributary/tributary/model/NodeHashes"
abbrev sC1 : String := "java/util/BitSet"
abbrev sC2 : String := "com/example/tributary/tributary/model/NodeHashes$Page"
/-- what the law's case says of the statics, at the start -/
def SF (Z : State) : Prop := (Sta Z Z.heap sC1 "$assertionsDisabled" "Z" (.int (1 : Int32))) ∧ True
theorem pn_0 : plainName "com/example/tributary/tributary/model/NodeHashesBytesPinLaw" = true := by first | (simp [plainName, overriddenIn]; done) | decide +kernel
theorem pn_1 : plainName "com/example/tributary/tributary/model/NodeHashes" = true := by first | (simp [plainName, overriddenIn]; done) | decide +kernel
theorem d1_0 : decode prog_47_method_1_code 0 = .ok (.aload_n 0, 1) := by decide +kernel
theorem d1_1 : decode prog_47_method_1_code 1 = .ok (.invokespecial 1, 3) := by decide +kernel
theorem d1_4 : decode prog_47_method_1_code 4 = .ok (.aload_n 0, 1) := by decide +kernel
theorem d1_5 : decode prog_47_method_1_code 5 = .ok (.iload_n 1, 1) := by decide +kernel
theorem d1_6 : decode prog_47_method_1_code 6 = .ok (.putfield 7, 3) := by decide +kernel
theorem d1_9 : decode prog_47_method_1_code 9 = .ok (.aload_n 0, 1) := by decide +kernel
theorem d1_10 : decode prog_47_method_1_code 10 = .ok (.ldc2_w 13, 3) := by decide +kernel
theorem d1_13 : decode prog_47_method_1_code 13 = .ok (.lload_n 2, 1) := by decide +kernel
theorem d1_14 : decode prog_47_method_1_code 14 = .ok (.invokestatic 15, 3) := by decide +kernel
theorem d3_0 : decode jdk_29_method_70_code 0 = .ok (.lload_n 0, 1) := by decide +kernel
theorem d3_1 : decode jdk_29_method_70_code 1 = .ok (.lload_n 2, 1) := by decide +kernel
theorem d3_2 : decode jdk_29_method_70_code 2 = .ok (.lcmp, 1) := by decide +kernel
theorem d3_3 : decode jdk_29_method_70_code 3 = .ok (.ifCond .gt 7, 3) := by decide +kernel
theorem d3_6 : decode jdk_29_method_70_code 6 = .ok (.lload_n 0, 1) := by decide +kernel
theorem d3_7 : decode jdk_29_method_70_code 7 = .ok (.goto 4, 3) := by decide +kernel
theorem d3_11 : decode jdk_29_method_70_code 11 = .ok (.lreturn, 1) := by decide +kernel
theorem d3_10 : decode jdk_29_method_70_code 10 = .ok (.lload_n 2, 1) := by decide +kernel
def Q3_0 (Z : State) (q0 : Int64) (q1 : Int64) (h0 : Heap) (n0 : Nat) (v : Option Value) (h : Heap) (L : List Loc) : Prop := v = (some (.long q0)) ∧ Fr n0 L ∧ h = h0
theorem rm3_0 (l : Launch) (Z : State) (a0 : Array Value) (hw : HW Z a0) (ws : List Jvm.Cond) (q0 : Int64) (q1 : Int64) (h0 : Heap) (n0 : Nat) (O0 : Old Z n0 h0) (S : SF Z ) (hc0 : ¬ (q1 < q0)) :
    Pay l Z My3 ws jdk_29_method_70_code 4 (some .long) #[(.long q0), (.long q1)] h0 ({ frames := 0, cells := 0, slots := 0, locals := 0 } : Room) (Q3_0 Z  q0 q1 h0 n0) := by
  refine own_body (Jvm.Free.JP.mathPlain rfl (by decide +kernel)) (L0 := #[vl q0, ss, vl q1, ss]) (fun _ => by first | rfl | (simp [entryFrame, mkF, argsToLocals, Value.category]; done)) ?_
  intro p e s m below meth c s₁ hrt hlk hx hby hml hZ hown0 hnm X0 e0
  have hown : s.vm.findClass "java/lang/Math" = some m.cls := hown0
  have N0 := Fr.nil n0
  have K0 : Keep h0 h0 [] := Keep.refl _ _
  obtain ⟨fs, hr, hrun, hended, hW, hsame⟩ := X0.leave (v := (some (.long q0))) (fun h => by rw [hrt] at h; cases h)
  refine ⟨_, _, ?_, hrun, hended, _, _, rfl, ?_, ⟨_, rfl⟩, hW, hsame.mono (by decide) (by decide)⟩
  · show Steps p.tables e below (s₁.setTop (mkF m 0 #[vl q0, ss, vl q1, ss] [])) _
    refine XS.lloadN X0.here hx rfl (hb hby d3_0) rfl ?_
    refine XS.lloadN X0.here hx rfl (hb hby d3_1) rfl ?_
    refine XS.lcmp X0.here hx rfl (hb hby d3_2) rfl ?_
    refine XS.ifNo X0.here hx rfl (hb hby d3_3) rfl (own_lc_gtF hc0).1 ?_
    refine XS.lloadN X0.here hx rfl (hb hby d3_6) rfl ?_
    refine XS.goto X0.here hx rfl (pc0 := 7) (pc' := 11) rfl (hb hby d3_7) (by decide) (by decide) ?_
    exact retOut X0 hx (t := .long) (i := .lreturn) hrt rfl (Or.inr (Or.inl ⟨rfl, rfl, _, rfl⟩)) (hb hby d3_11) hr
  · show Q3_0 Z  q0 q1 h0 n0 (some (.long q0)) s₁.heap _
    exact (⟨rfl, N0, e0⟩)
def Q3_1 (Z : State) (q0 : Int64) (q1 : Int64) (h0 : Heap) (n0 : Nat) (v : Option Value) (h : Heap) (L : List Loc) : Prop := v = (some (.long q1)) ∧ Fr n0 L ∧ h = h0
theorem rm3_1 (l : Launch) (Z : State) (a0 : Array Value) (hw : HW Z a0) (ws : List Jvm.Cond) (q0 : Int64) (q1 : Int64) (h0 : Heap) (n0 : Nat) (O0 : Old Z n0 h0) (S : SF Z ) (hc0 : q1 < q0) :
    Pay l Z My3 ws jdk_29_method_70_code 4 (some .long) #[(.long q0), (.long q1)] h0 ({ frames := 0, cells := 0, slots := 0, locals := 0 } : Room) (Q3_1 Z  q0 q1 h0 n0) := by
  refine own_body (Jvm.Free.JP.mathPlain rfl (by decide +kernel)) (L0 := #[vl q0, ss, vl q1, ss]) (fun _ => by first | rfl | (simp [entryFrame, mkF, argsToLocals, Value.category]; done)) ?_
  intro p e s m below meth c s₁ hrt hlk hx hby hml hZ hown0 hnm X0 e0
  have hown : s.vm.findClass "java/lang/Math" = some m.cls := hown0
  have N0 := Fr.nil n0
  have K0 : Keep h0 h0 [] := Keep.refl _ _
  obtain ⟨fs, hr, hrun, hended, hW, hsame⟩ := X0.leave (v := (some (.long q1))) (fun h => by rw [hrt] at h; cases h)
  refine ⟨_, _, ?_, hrun, hended, _, _, rfl, ?_, ⟨_, rfl⟩, hW, hsame.mono (by decide) (by decide)⟩
  · show Steps p.tables e below (s₁.setTop (mkF m 0 #[vl q0, ss, vl q1, ss] [])) _
    refine XS.lloadN X0.here hx rfl (hb hby d3_0) rfl ?_
    refine XS.lloadN X0.here hx rfl (hb hby d3_1) rfl ?_
    refine XS.lcmp X0.here hx rfl (hb hby d3_2) rfl ?_
    refine XS.ifYes X0.here hx rfl (pc0 := 3) (pc' := 10) rfl (hb hby d3_3) rfl (own_lc_gtT hc0).1 (by decide) (by decide) ?_
    refine XS.lloadN X0.here hx rfl (hb hby d3_10) rfl ?_
    exact retOut X0 hx (t := .long) (i := .lreturn) hrt rfl (Or.inr (Or.inl ⟨rfl, rfl, _, rfl⟩)) (hb hby d3_11) hr
  · show Q3_1 Z  q0 q1 h0 n0 (some (.long q1)) s₁.heap _
    exact (⟨rfl, N0, e0⟩)
def Qm3_0 (Z : State) (q0 : Int64) (q1 : Int64) (h0 : Heap) (n0 : Nat) (v : Option Value) (h : Heap) (L : List Loc) : Prop := v = (some (.long (own_minL q0 q1))) ∧ Fr n0 L ∧ h = h0
theorem mg3_0 (l : Launch) (Z : State) (a0 : Array Value) (hw : HW Z a0) (ws : List Jvm.Cond) (q0 : Int64) (q1 : Int64) (h0 : Heap) (n0 : Nat) (O0 : Old Z n0 h0) (S : SF Z ) :
    Pay l Z My3 ws jdk_29_method_70_code 4 (some .long) #[(.long q0), (.long q1)] h0 ({ frames := 0, cells := 0, slots := 0, locals := 0 } : Room) (Qm3_0 Z  q0 q1 h0 n0) := by
  by_cases hm0 : q1 < q0
  · have q := rm3_1 l Z a0 hw ws  q0 q1 h0 n0 O0 S hm0
    have e : (own_minL q0 q1) = q1 := by simp [own_minL, hm0]
    rw [show (Qm3_0 Z  q0 q1 h0 n0) = (Q3_1 Z  q0 q1 h0 n0) from by funext v h L; unfold Qm3_0 Q3_1; rw [e]]; exact q
  · have q := rm3_0 l Z a0 hw ws  q0 q1 h0 n0 O0 S hm0
    have e : (own_minL q0 q1) = q0 := by simp [own_minL, hm0]
    rw [show (Qm3_0 Z  q0 q1 h0 n0) = (Q3_0 Z  q0 q1 h0 n0) from by funext v h L; unfold Qm3_0 Q3_0; rw [e]]; exact q
theorem pd_0 : parseMethodDescriptor "(JJ)J" = some ⟨[.long, .long], some .long⟩ := by decide +kernel
theorem d1_17 : decode prog_47_method_1_code 17 = .ok (.l2i, 1) := by decide +kernel
theorem d1_18 : decode prog_47_method_1_code 18 = .ok (.putfield 21, 3) := by decide +kernel
theorem d1_21 : decode prog_47_method_1_code 21 = .ok (.aload_n 0, 1) := by decide +kernel
theorem d1_22 : decode prog_47_method_1_code 22 = .ok (.lload_n 2, 1) := by decide +kernel
theorem d1_23 : decode prog_47_method_1_code 23 = .ok (.aload_n 0, 1) := by decide +kernel
theorem d1_24 : decode prog_47_method_1_code 24 = .ok (.getfield 21, 3) := by decide +kernel
theorem d1_27 : decode prog_47_method_1_code 27 = .ok (.i2l, 1) := by decide +kernel
theorem d1_28 : decode prog_47_method_1_code 28 = .ok (.ladd, 1) := by decide +kernel
theorem d1_29 : decode prog_47_method_1_code 29 = .ok (.lconst 1, 1) := by decide +kernel
theorem d1_30 : decode prog_47_method_1_code 30 = .ok (.lsub, 1) := by decide +kernel
theorem d1_31 : decode prog_47_method_1_code 31 = .ok (.aload_n 0, 1) := by decide +kernel
theorem d1_32 : decode prog_47_method_1_code 32 = .ok (.getfield 21, 3) := by decide +kernel
theorem d1_35 : decode prog_47_method_1_code 35 = .ok (.i2l, 1) := by decide +kernel
theorem d1_36 : decode prog_47_method_1_code 36 = .ok (.ldiv, 1) := by decide +kernel
theorem d1_37 : decode prog_47_method_1_code 37 = .ok (.invokestatic 24, 3) := by decide +kernel
theorem d4_0 : decode jdk_29_method_43_code 0 = .ok (.lload_n 0, 1) := by decide +kernel
theorem d4_1 : decode jdk_29_method_43_code 1 = .ok (.l2i, 1) := by decide +kernel
theorem d4_2 : decode jdk_29_method_43_code 2 = .ok (.i2l, 1) := by decide +kernel
theorem d4_3 : decode jdk_29_method_43_code 3 = .ok (.lload_n 0, 1) := by decide +kernel
theorem d4_4 : decode jdk_29_method_43_code 4 = .ok (.lcmp, 1) := by decide +kernel
theorem d4_5 : decode jdk_29_method_43_code 5 = .ok (.ifCond .eq 13, 3) := by decide +kernel
theorem d4_18 : decode jdk_29_method_43_code 18 = .ok (.lload_n 0, 1) := by decide +kernel
theorem d4_19 : decode jdk_29_method_43_code 19 = .ok (.l2i, 1) := by decide +kernel
theorem d4_20 : decode jdk_29_method_43_code 20 = .ok (.ireturn, 1) := by decide +kernel
def Q4_0 (Z : State) (q0 : Int64) (h0 : Heap) (n0 : Nat) (v : Option Value) (h : Heap) (L : List Loc) : Prop := v = (some (.int (q0.toInt32))) ∧ Fr n0 L ∧ h = h0
theorem rm4_0 (l : Launch) (Z : State) (a0 : Array Value) (hw : HW Z a0) (ws : List Jvm.Cond) (q0 : Int64) (h0 : Heap) (n0 : Nat) (O0 : Old Z n0 h0) (S : SF Z ) (hq : ((q0.toInt32).toInt64) = q0) :
    Pay l Z (⟨"java/lang/Math", "toIntExact", "(J)I"⟩ : MethodName) ws jdk_29_method_43_code 2 (some .int) #[(.long q0)] h0 ({ frames := 0, cells := 0, slots := 0, locals := 0 } : Room) (Q4_0 Z  q0 h0 n0) := by
  refine own_body (Jvm.Free.JP.mathPlain rfl (by decide +kernel)) (L0 := #[vl q0, ss]) (fun _ => by first | rfl | (simp [entryFrame, mkF, argsToLocals, Value.category]; done)) ?_
  intro p e s m below meth c s₁ hrt hlk hx hby hml hZ hown0 hnm X0 e0
  have hown : s.vm.findClass "java/lang/Math" = some m.cls := hown0
  have N0 := Fr.nil n0
  have K0 : Keep h0 h0 [] := Keep.refl _ _
  have hc1 : ((q0.toInt32).toInt64) = q0 := hq
  obtain ⟨fs, hr, hrun, hended, hW, hsame⟩ := X0.leave (v := (some (.int (q0.toInt32)))) (fun h => by rw [hrt] at h; cases h) hlk
  refine ⟨_, _, ?_, hrun, hended, _, _, rfl, ?_, ⟨_, rfl⟩, hW, hsame.mono (by decide) (by decide)⟩
  · show Steps p.tables e below (s₁.setTop (mkF m 0 #[vl q0, ss] [])) _
    refine XS.lloadN X0.here hx rfl (hb hby d4_0) rfl ?_
    refine XS.l2i X0.here hx rfl (hb hby d4_1) rfl ?_
    refine XS.i2l X0.here hx rfl (hb hby d4_2) rfl ?_
    refine XS.lloadN X0.here hx rfl (hb hby d4_3) rfl ?_
    refine XS.lcmp X0.here hx rfl (hb hby d4_4) rfl ?_
    refine XS.ifYes X0.here hx rfl (pc0 := 5) (pc' := 18) rfl (hb hby d4_5) rfl (own_lc_eqT hc1).1 (by decide) (by decide) ?_
    refine XS.lloadN X0.here hx rfl (hb hby d4_18) rfl ?_
    refine XS.l2i X0.here hx rfl (hb hby d4_19) rfl ?_
    show Steps p.tables e below (s₁.setTop (mkF m 20 #[vl q0, ss] [(.int (q0.toInt32))])) _
    exact retOut X0 hx (t := .int) (i := .ireturn) hrt rfl (Or.inl ⟨rfl, Or.inl rfl, _, rfl⟩) (hb hby d4_20) hr
  · show Q4_0 Z  q0 h0 n0 (some (.int (q0.toInt32))) s₁.heap _
    exact (⟨rfl, N0, e0⟩)
theorem pd_1 : parseMethodDescriptor "(J)I" = some ⟨[.long], some .int⟩ := by decide +kernel
theorem d1_40 : decode prog_47_method_1_code 40 = .ok (.anewarray 28, 3) := by decide +kernel
theorem d1_43 : decode prog_47_method_1_code 43 = .ok (.putfield 30, 3) := by decide +kernel
theorem d1_46 : decode prog_47_method_1_code 46 = .ok (.return_, 1) := by decide +kernel
def Q1_0 (Z : State) (o0 : Addr) (p0 : Int32) (q1 : Int64) (h0 : Heap) (n0 : Nat) (v : Option Value) (h : Heap) (L : List Loc) : Prop := ∃ (b13 : Addr), ∃ (ps : Int32), ∃ (np : Int32), v = none ∧ Fr n0 L ∧ Keep h0 h [o0] ∧ Exa Z h o0 sC0 ∧ Fld Z h o0 sC0 "held" "J" (.long 0) ∧ Fld Z h o0 sC0 "length" "I" (.int p0) ∧ Fld Z h o0 sC0 "pageSlots" "I" (.int ps) ∧ Fld Z h o0 sC0 "pages" "[Lcom/example/tributary/tributary/model/NodeHashes$Page;" (.ref b13) ∧ Fld Z h o0 sC0 "pagesMade" "I" (.int 0) ∧ PA Z h b13 np [] ∧ h0.size ≤ b13 ∧ IN q1 ps np
theorem rm1_0 (l : Launch) (Z : State) (a0 : Array Value) (hw : HW Z a0) (ws : List Jvm.Cond) (o0 : Addr) (p0 : Int32) (q1 : Int64) (h0 : Heap) (n0 : Nat) (O0 : Old Z n0 h0) (S : SF Z ) (E_o0 : Exa Z h0 o0 sC0) (F_held_o0 : Fld Z h0 o0 sC0 "held" "J" (.long 0)) (F_length_o0 : Fld Z h0 o0 sC0 "length" "I" (.int 0)) (F_pageSlots_o0 : Fld Z h0 o0 sC0 "pageSlots" "I" (.int 0)) (F_pages_o0 : Fld Z h0 o0 sC0 "pages" "[Lcom/example/tributary/tributary/model/NodeHashes$Page;" .null) (F_pagesMade_o0 : Fld Z h0 o0 sC0 "pagesMade" "I" (.int 0)) (g_o0 : n0 ≤ o0) (hS : 1 ≤ (q1).toInt ∧ (q1).toInt ≤ 65536) :
    Pay l Z My1 ws prog_47_method_1_code 4 none #[(.ref o0), (.int p0), (.long q1)] h0 ({ frames := 1, cells := 1, slots := 256, locals := 16 } : Room) (Q1_0 Z  o0 p0 q1 h0 n0) := by
  refine own_body (plainFor_of_name pn_1) (L0 := #[va o0, vi p0, vl q1, ss]) (fun _ => by first | rfl | (simp [entryFrame, mkF, argsToLocals, Value.category]; done)) ?_
  intro p e s m below meth c s₁ hrt hlk hx hby hml hZ hown0 hnm X0 e0
  have hown : s.vm.findClass sC0 = some m.cls := hown0
  have N0 := Fr.nil n0
  have K0 : Keep h0 h0 [o0] := Keep.refl _ _
  obtain ⟨T1, X1, e1, st1⟩ := initO X0 hx hZ hown (ww hw 12 rfl) (ww hw 13 rfl) (ww hw 14 rfl) e0 (g := (mkF m 1 #[va o0, vi p0, vl q1, ss] [(.ref o0)])) rfl (by rw [hml]; rfl) rfl (hb hby d1_1) (by decide) (W := 0) (by show 2 * 0 + _ ≤ _; exact Nat.le_of_eq rfl) (by decide)
  obtain ⟨T2, h2, X2, e2, W2, st2⟩ := putF X1 hx hZ hown (host := "") (Or.inl (ww hw 15 rfl)) Via.refl e1 F_length_o0 E_o0 (Or.inr ⟨(ww hw 16 rfl), rfl, hnm⟩) (ww hw 7 rfl) (ty := .int) (by decide) rfl rfl (g := (mkF m 6 #[va o0, vi p0, vl q1, ss] [(.int p0), (.ref o0)])) rfl rfl (hb hby d1_6)
  have Fw2 := F_length_o0.same W2
  have O2 := O0.wr W2 g_o0
  have K2 : Keep h0 h2 [o0] := K0.wr W2 (Or.inl (List.mem_of_getElem? (i := 0) rfl))
  have N2 := Fr.snoc X2 N0 g_o0
  obtain ⟨_, _, ⟨T3, L3, k3, n3⟩, -, X3, ⟨Lc3, hQ3, l3, y3, z3⟩, st3⟩ := Jvm.LawKit.callS X2 hx (y := My3) hown (mvT hZ (ww hw 18 rfl)) (mvT hZ (ww hw 19 rfl)) (mvT hZ (ww hw 20 rfl)) (mvT hZ (ww hw 21 rfl)) (by decide) (backOf (W := 1) (mg3_0 l Z a0 hw []  (256 : Int64) q1 h2 n0 O2 S) hZ (ww hw 21 rfl) (ww hw 20 rfl) (by decide) (by decide)) (g := (mkF m 14 #[va o0, vi p0, vl q1, ss] [(.long q1), (.long 256), (.ref o0)])) rfl (by rw [hml]; rfl) (argsL := [(.long 256), (.long q1)]) (rest := [(.ref o0)]) (lenOf pd_0 rfl) rfl (by show 2 * 0 + _ ≤ _; exact Nat.le_of_eq rfl) (hb hby d1_14) (fun _ _ => ⟨rfl, e2, (by decide : 0 + 0 ≤ _), (by decide : 0 + 0 ≤ _)⟩)
  dsimp only [Pt.U, Pt.locs, Pt.cells, Pt.slots] at X3 l3 y3 z3 st3 hQ3
  subst l3 y3 z3
  obtain ⟨rfl, Nq3, e3⟩ := hQ3
  have N3 := Fr.app N2 Nq3
  have fc4 := (F_pageSlots_o0.other W2 (Or.inr (slot_ne (Or.inr (ww hw 23 rfl)) (Or.inr (ww hw 16 rfl)) (by decide) (t := .int) (t' := .int) (by decide) (by decide))))
  have fc5 := (E_o0.wr W2)
  obtain ⟨T6, h6, X6, e6, W6, st6⟩ := putF X3 hx hZ hown (host := "") (Or.inl (ww hw 22 rfl)) Via.refl e3 fc4 fc5 (Or.inr ⟨(ww hw 23 rfl), rfl, hnm⟩) (ww hw 7 rfl) (ty := .int) (by decide) rfl rfl (g := (mkF m 18 #[va o0, vi p0, vl q1, ss] [(.int ((own_minL (256 : Int64) q1).toInt32)), (.ref o0)])) rfl rfl (hb hby d1_18)
  have Fw6 := fc4.same W6
  have O6 := O2.wr W6 g_o0
  have K6 : Keep h0 h6 [o0] := K2.wr W6 (Or.inl (List.mem_of_getElem? (i := 0) rfl))
  have N6 := Fr.snoc X6 N3 g_o0
  obtain ⟨T7, X7, e7, st7⟩ := getF X6 hx hZ hown (host := "") (Or.inl (ww hw 22 rfl)) Via.refl e6 Fw6 (g := (mkF m 24 #[va o0, vi p0, vl q1, ss] [(.ref o0), (.long q1), (.ref o0)])) rfl rfl (hb hby d1_24)
  obtain ⟨T8, X8, e8, st8⟩ := getF X7 hx hZ hown (host := "") (Or.inl (ww hw 22 rfl)) Via.refl e7 Fw6 (g := (mkF m 32 #[va o0, vi p0, vl q1, ss] [(.ref o0), (.long ((q1 + (((own_minL (256 : Int64) q1).toInt32).toInt64)) - (1 : Int64))), (.ref o0)])) rfl rfl (hb hby d1_32)
  have hc9 : ¬ ((((own_minL (256 : Int64) q1).toInt32).toInt64) = (0 : Int64)) := (own_ini0 hS)
  obtain ⟨_, _, ⟨T10, L10, k10, n10⟩, -, X10, ⟨Lc10, hQ10, l10, y10, z10⟩, st10⟩ := Jvm.LawKit.callS X8 hx (y := (⟨"java/lang/Math", "toIntExact", "(J)I"⟩ : MethodName)) hown (mvT hZ (ww hw 24 rfl)) (mvT hZ (ww hw 25 rfl)) (mvT hZ (ww hw 20 rfl)) (mvT hZ (ww hw 26 rfl)) (by decide) (backOf (W := 1) (rm4_0 l Z a0 hw []  (((q1 + (((own_minL (256 : Int64) q1).toInt32).toInt64)) - (1 : Int64)) / (((own_minL (256 : Int64) q1).toInt32).toInt64)) h6 n0 O6 S (own_ini1 hS)) hZ (ww hw 26 rfl) (ww hw 20 rfl) (by decide) (by decide)) (g := (mkF m 37 #[va o0, vi p0, vl q1, ss] [(.long (((q1 + (((own_minL (256 : Int64) q1).toInt32).toInt64)) - (1 : Int64)) / (((own_minL (256 : Int64) q1).toInt32).toInt64))), (.ref o0)])) rfl (by rw [hml]; rfl) (argsL := [(.long (((q1 + (((own_minL (256 : Int64) q1).toInt32).toInt64)) - (1 : Int64)) / (((own_minL (256 : Int64) q1).toInt32).toInt64)))]) (rest := [(.ref o0)]) (lenOf pd_1 rfl) rfl (by show 2 * 0 + _ ≤ _; exact Nat.le_of_eq rfl) (hb hby d1_37) (fun _ _ => ⟨rfl, e8, (by decide : 0 + 0 ≤ _), (by decide : 0 + 0 ≤ _)⟩)
  dsimp only [Pt.U, Pt.locs, Pt.cells, Pt.slots] at X10 l10 y10 z10 st10 hQ10
  subst l10 y10 z10
  obtain ⟨rfl, Nq10, e10⟩ := hQ10
  have N10 := Fr.app N6 Nq10
  have hc11 : capP ((((q1 + (((own_minL (256 : Int64) q1).toInt32).toInt64)) - (1 : Int64)) / (((own_minL (256 : Int64) q1).toInt32).toInt64)).toInt32) := (own_ini2 hS)
  have fc12 := (fc5.wr W6)
  obtain ⟨T13, h13, k13, X13, e13, E13, A13, Ov13, st13⟩ := newR X10 hx hZ hown (ww hw 27 rfl) (ww hw 28 rfl) e10 (g := (mkF m 40 #[va o0, vi p0, vl q1, ss] [(.int ((((q1 + (((own_minL (256 : Int64) q1).toInt32).toInt64)) - (1 : Int64)) / (((own_minL (256 : Int64) q1).toInt32).toInt64)).toInt32)), (.ref o0)])) rfl (hb hby d1_40) rfl hc11.1 (cap := 256) hc11.2 (by decide) (by decide) (by decide)
  obtain ⟨b13, qs13⟩ : ∃ z, z = h6.size := ⟨_, rfl⟩
  rw [← qs13] at A13 st13
  have ne_o0_b13 : o0 ≠ b13 := Nat.ne_of_lt (Nat.lt_of_lt_of_le fc12.lt (Nat.le_of_eq qs13.symm))
  have g_b13 : n0 ≤ b13 := Nat.le_trans (own_old O6) (Nat.le_of_eq qs13.symm)
  have sz_b13 : h0.size ≤ b13 := Nat.le_trans K6.1 (Nat.le_of_eq qs13.symm)
  have O13 := O6.ext E13
  have K13 : Keep h0 h13 [o0] := K6.ext E13
  have V_b13 : PA Z h13 b13 ((((q1 + (((own_minL (256 : Int64) q1).toInt32).toInt64)) - (1 : Int64)) / (((own_minL (256 : Int64) q1).toInt32).toInt64)).toInt32) [] := PA.new A13 hc11.1 Ov13
  have fc14 := (((F_pages_o0.other W2 (Or.inr (slot_ne (Or.inr (ww hw 30 rfl)) (Or.inr (ww hw 16 rfl)) (by decide) (t := (.array (.object sC2))) (t' := .int) (by decide) (by decide)))).other W6 (Or.inr (slot_ne (Or.inr (ww hw 30 rfl)) (Or.inr (ww hw 23 rfl)) (by decide) (t := (.array (.object sC2))) (t' := .int) (by decide) (by decide)))).ext E13)
  have fc15 := (fc12.ext E13)
  obtain ⟨T16, h16, X16, e16, W16, st16⟩ := putF X13 hx hZ hown (host := "") (Or.inl (ww hw 29 rfl)) Via.refl e13 fc14 fc15 (Or.inr ⟨(ww hw 30 rfl), rfl, hnm⟩) (ww hw 7 rfl) (ty := (.array (.object sC2))) (by decide) rfl rfl (g := (mkF m 43 #[va o0, vi p0, vl q1, ss] [(.ref b13), (.ref o0)])) rfl rfl (hb hby d1_43)
  have Fw16 := fc14.same W16
  have O16 := O13.wr W16 g_o0
  have K16 : Keep h0 h16 [o0] := K13.wr W16 (Or.inl (List.mem_of_getElem? (i := 0) rfl))
  have N16 := Fr.snoc X16 N10 g_o0
  obtain ⟨fs, hr, hrun, hended, hW, hsame⟩ := X16.leave (v := none) (fun _ => rfl) hlk
  have fc17 := (fc15.wr W16)
  have fc18 := ((((F_held_o0.other W2 (Or.inr (slot_ne (Or.inl (ww hw 111 rfl)) (Or.inr (ww hw 16 rfl)) (by decide) (t := .long) (t' := .int) (by decide) (by decide)))).other W6 (Or.inr (slot_ne (Or.inl (ww hw 111 rfl)) (Or.inr (ww hw 23 rfl)) (by decide) (t := .long) (t' := .int) (by decide) (by decide)))).ext E13).other W16 (Or.inr (slot_ne (Or.inl (ww hw 111 rfl)) (Or.inr (ww hw 30 rfl)) (by decide) (t := .long) (t' := (.array (.object sC2))) (by decide) (by decide))))
  have fc19 := (((Fw2.other W6 (Or.inr (slot_ne (Or.inr (ww hw 16 rfl)) (Or.inr (ww hw 23 rfl)) (by decide) (t := .int) (t' := .int) (by decide) (by decide)))).ext E13).other W16 (Or.inr (slot_ne (Or.inr (ww hw 16 rfl)) (Or.inr (ww hw 30 rfl)) (by decide) (t := .int) (t' := (.array (.object sC2))) (by decide) (by decide))))
  have fc20 := ((Fw6.ext E13).other W16 (Or.inr (slot_ne (Or.inr (ww hw 23 rfl)) (Or.inr (ww hw 30 rfl)) (by decide) (t := .int) (t' := (.array (.object sC2))) (by decide) (by decide))))
  have fc21 := ((((F_pagesMade_o0.other W2 (Or.inr (slot_ne (Or.inl (ww hw 38 rfl)) (Or.inr (ww hw 16 rfl)) (by decide) (t := .int) (t' := .int) (by decide) (by decide)))).other W6 (Or.inr (slot_ne (Or.inl (ww hw 38 rfl)) (Or.inr (ww hw 23 rfl)) (by decide) (t := .int) (t' := .int) (by decide) (by decide)))).ext E13).other W16 (Or.inr (slot_ne (Or.inl (ww hw 38 rfl)) (Or.inr (ww hw 30 rfl)) (by decide) (t := .int) (t' := (.array (.object sC2))) (by decide) (by decide))))
  have fc22 := (V_b13.other W16 (Ne.symm ne_o0_b13))
  refine ⟨_, _, ?_, hrun, hended, _, _, rfl, ?_, ⟨_, rfl⟩, hW, hsame.mono (by decide) (by decide)⟩
  · show Steps p.tables e below (s₁.setTop (mkF m 0 #[va o0, vi p0, vl q1, ss] [])) _
    refine XS.aloadN X0.here hx rfl (hb hby d1_0) rfl rfl ?_
    refine st1 _ ?_
    refine XS.aloadN X1.here hx rfl (hb hby d1_4) rfl rfl ?_
    refine XS.iloadN X1.here hx rfl (hb hby d1_5) rfl ?_
    refine st2 _ ?_
    refine XS.aloadN X2.here hx rfl (hb hby d1_9) rfl rfl ?_
    refine X2.ldc2Long hx hown (mvT hZ (ww hw 17 rfl)) (g := (mkF m 10 #[va o0, vi p0, vl q1, ss] [(.ref o0)])) rfl (hb hby d1_10) _ ?_
    refine XS.lloadN X2.here hx rfl (hb hby d1_13) rfl ?_
    show Steps p.tables e below (T2.setTop (mkF m 14 #[va o0, vi p0, vl q1, ss] [(.long q1), (.long 256), (.ref o0)])) _
    refine st3 _ ?_
    refine XS.l2i X3.here hx rfl (hb hby d1_17) rfl ?_
    refine st6 _ ?_
    refine XS.aloadN X6.here hx rfl (hb hby d1_21) rfl rfl ?_
    refine XS.lloadN X6.here hx rfl (hb hby d1_22) rfl ?_
    refine XS.aloadN X6.here hx rfl (hb hby d1_23) rfl rfl ?_
    refine st7 _ ?_
    refine XS.i2l X7.here hx rfl (hb hby d1_27) rfl ?_
    show Steps p.tables e below (T7.setTop (mkF m 28 #[va o0, vi p0, vl q1, ss] [(.long (((own_minL (256 : Int64) q1).toInt32).toInt64)), (.long q1), (.ref o0)])) _
    refine XS.ladd X7.here hx rfl (hb hby d1_28) rfl ?_
    refine XS.lconst X7.here hx rfl (hb hby d1_29) ?_
    refine XS.lsub X7.here hx rfl (hb hby d1_30) rfl ?_
    refine XS.aloadN X7.here hx rfl (hb hby d1_31) rfl rfl ?_
    refine st8 _ ?_
    refine XS.i2l X8.here hx rfl (hb hby d1_35) rfl ?_
    refine XS.ldiv X8.here hx rfl (hb hby d1_36) rfl hc9 ?_
    refine st10 _ ?_
    show Steps p.tables e below (T10.setTop (mkF m 40 #[va o0, vi p0, vl q1, ss] [(.int ((((q1 + (((own_minL (256 : Int64) q1).toInt32).toInt64)) - (1 : Int64)) / (((own_minL (256 : Int64) q1).toInt32).toInt64)).toInt32)), (.ref o0)])) _
    refine st13 _ ?_
    refine st16 _ ?_
    exact X16.returnOut hx hrt (hb hby d1_46) hr
  · show Q1_0 Z  o0 p0 q1 h0 n0 none T16.heap _
    rw [e16]; exact ⟨b13, ((own_minL (256 : Int64) q1).toInt32), ((((q1 + (((own_minL (256 : Int64) q1).toInt32).toInt64)) - (1 : Int64)) / (((own_minL (256 : Int64) q1).toInt32).toInt64)).toInt32), rfl, N16, K16, fc17, fc18, fc19, fc20, Fw16, fc21, fc22, sz_b13, (own_ini3 hS)⟩
theorem pd_2 : parseMethodDescriptor "(IJ)V" = some ⟨[.int, .long], none⟩ := by decide +kernel
theorem d5_0 : decode prog_47_method_8_code 0 = .ok (.aload_n 0, 1) := by decide +kernel
theorem d5_1 : decode prog_47_method_8_code 1 = .ok (.getfield 30, 3) := by decide +kernel
theorem d5_4 : decode prog_47_method_8_code 4 = .ok (.arraylength, 1) := by decide +kernel
theorem d5_5 : decode prog_47_method_8_code 5 = .ok (.i2l, 1) := by decide +kernel
theorem d5_6 : decode prog_47_method_8_code 6 = .ok (.ldc2_w 96, 3) := by decide +kernel
theorem d5_9 : decode prog_47_method_8_code 9 = .ok (.lmul, 1) := by decide +kernel
theorem d5_10 : decode prog_47_method_8_code 10 = .ok (.aload_n 0, 1) := by decide +kernel
theorem d5_11 : decode prog_47_method_8_code 11 = .ok (.getfield 37, 3) := by decide +kernel
theorem d5_14 : decode prog_47_method_8_code 14 = .ok (.i2l, 1) := by decide +kernel
theorem d5_15 : decode prog_47_method_8_code 15 = .ok (.aload_n 0, 1) := by decide +kernel
theorem d5_16 : decode prog_47_method_8_code 16 = .ok (.getfield 21, 3) := by decide +kernel
theorem d5_19 : decode prog_47_method_8_code 19 = .ok (.i2l, 1) := by decide +kernel
theorem d5_20 : decode prog_47_method_8_code 20 = .ok (.aload_n 0, 1) := by decide +kernel
theorem d5_21 : decode prog_47_method_8_code 21 = .ok (.getfield 7, 3) := by decide +kernel
theorem d5_24 : decode prog_47_method_8_code 24 = .ok (.i2l, 1) := by decide +kernel
theorem d5_25 : decode prog_47_method_8_code 25 = .ok (.lmul, 1) := by decide +kernel
theorem d5_26 : decode prog_47_method_8_code 26 = .ok (.aload_n 0, 1) := by decide +kernel
theorem d5_27 : decode prog_47_method_8_code 27 = .ok (.getfield 21, 3) := by decide +kernel
theorem d5_30 : decode prog_47_method_8_code 30 = .ok (.bipush 8, 2) := by decide +kernel
theorem d5_32 : decode prog_47_method_8_code 32 = .ok (.idiv, 1) := by decide +kernel
theorem d5_33 : decode prog_47_method_8_code 33 = .ok (.i2l, 1) := by decide +kernel
theorem d5_34 : decode prog_47_method_8_code 34 = .ok (.ladd, 1) := by decide +kernel
theorem d5_35 : decode prog_47_method_8_code 35 = .ok (.ldc2_w 100, 3) := by decide +kernel
theorem d5_38 : decode prog_47_method_8_code 38 = .ok (.ladd, 1) := by decide +kernel
theorem d5_39 : decode prog_47_method_8_code 39 = .ok (.lmul, 1) := by decide +kernel
theorem d5_40 : decode prog_47_method_8_code 40 = .ok (.ladd, 1) := by decide +kernel
theorem d5_41 : decode prog_47_method_8_code 41 = .ok (.lreturn, 1) := by decide +kernel
def Q5_0 (Z : State) (o0 : Addr) (o1 : Addr) (q0 : Int64) (p1 : Int32) (p2 : Int32) (p3 : Int32) (h0 : Heap) (n0 : Nat) (v : Option Value) (h : Heap) (L : List Loc) : Prop := v = (some (.long (((p3.toInt64) * (8 : Int64)) + ((0 : Int64) * ((((p2.toInt64) * (p1.toInt64)) + ((p2 / (8 : Int32)).toInt64)) + (64 : Int64)))))) ∧ Fr n0 L ∧ h = h0
theorem rm5_0 (l : Launch) (Z : State) (a0 : Array Value) (hw : HW Z a0) (ws : List Jvm.Cond) (o0 : Addr) (o1 : Addr) (q0 : Int64) (p1 : Int32) (p2 : Int32) (p3 : Int32) (h0 : Heap) (n0 : Nat) (O0 : Old Z n0 h0) (S : SF Z ) (F_length_o0 : Fld Z h0 o0 sC0 "length" "I" (.int p1)) (F_pageSlots_o0 : Fld Z h0 o0 sC0 "pageSlots" "I" (.int p2)) (F_pages_o0 : Fld Z h0 o0 sC0 "pages" "[Lcom/example/tributary/tributary/model/NodeHashes$Page;" (.ref o1)) (F_pagesMade_o0 : Fld Z h0 o0 sC0 "pagesMade" "I" (.int 0)) (V_o1 : PA Z h0 o1 p3 []) :
    Pay l Z My5 ws prog_47_method_8_code 1 (some .long) #[(.ref o0)] h0 ({ frames := 0, cells := 0, slots := 0, locals := 0 } : Room) (Q5_0 Z  o0 o1 q0 p1 p2 p3 h0 n0) := by
  refine own_body (plainFor_of_name pn_1) (L0 := #[va o0]) (fun _ => by first | rfl | (simp [entryFrame, mkF, argsToLocals, Value.category]; done)) ?_
  intro p e s m below meth c s₁ hrt hlk hx hby hml hZ hown0 hnm X0 e0
  have hown : s.vm.findClass sC0 = some m.cls := hown0
  have N0 := Fr.nil n0
  have K0 : Keep h0 h0 [] := Keep.refl _ _
  obtain ⟨T1, X1, e1, st1⟩ := getF X0 hx hZ hown (host := "") (Or.inl (ww hw 29 rfl)) Via.refl e0 F_pages_o0 (g := (mkF m 1 #[va o0] [(.ref o0)])) rfl rfl (hb hby d5_1)
  obtain ⟨T2, X2, e2, st2⟩ := getF X1 hx hZ hown (host := "") (Or.inl (ww hw 37 rfl)) Via.refl e1 F_pagesMade_o0 (g := (mkF m 11 #[va o0] [(.ref o0), (.long ((p3.toInt64) * (8 : Int64)))])) rfl rfl (hb hby d5_11)
  obtain ⟨T3, X3, e3, st3⟩ := getF X2 hx hZ hown (host := "") (Or.inl (ww hw 22 rfl)) Via.refl e2 F_pageSlots_o0 (g := (mkF m 16 #[va o0] [(.ref o0), (.long 0), (.long ((p3.toInt64) * (8 : Int64)))])) rfl rfl (hb hby d5_16)
  obtain ⟨T4, X4, e4, st4⟩ := getF X3 hx hZ hown (host := "") (Or.inl (ww hw 15 rfl)) Via.refl e3 F_length_o0 (g := (mkF m 21 #[va o0] [(.ref o0), (.long (p2.toInt64)), (.long 0), (.long ((p3.toInt64) * (8 : Int64)))])) rfl rfl (hb hby d5_21)
  obtain ⟨T5, X5, e5, st5⟩ := getF X4 hx hZ hown (host := "") (Or.inl (ww hw 22 rfl)) Via.refl e4 F_pageSlots_o0 (g := (mkF m 27 #[va o0] [(.ref o0), (.long ((p2.toInt64) * (p1.toInt64))), (.long 0), (.long ((p3.toInt64) * (8 : Int64)))])) rfl rfl (hb hby d5_27)
  obtain ⟨fs, hr, hrun, hended, hW, hsame⟩ := X5.leave (v := (some (.long (((p3.toInt64) * (8 : Int64)) + ((0 : Int64) * ((((p2.toInt64) * (p1.toInt64)) + ((p2 / (8 : Int32)).toInt64)) + (64 : Int64))))))) (fun h => by rw [hrt] at h; cases h) hlk
  refine ⟨_, _, ?_, hrun, hended, _, _, rfl, ?_, ⟨_, rfl⟩, hW, hsame.mono (by decide) (by decide)⟩
  · show Steps p.tables e below (s₁.setTop (mkF m 0 #[va o0] [])) _
    refine XS.aloadN X0.here hx rfl (hb hby d5_0) rfl rfl ?_
    refine st1 _ ?_
    refine own_alenP X1 hx hZ e1 V_o1 (g := (mkF m 4 #[va o0] [(.ref o1)])) rfl rfl (hb hby d5_4) _ ?_
    refine XS.i2l X1.here hx rfl (hb hby d5_5) rfl ?_
    refine X1.ldc2Long hx hown (mvT hZ (ww hw 36 rfl)) (g := (mkF m 6 #[va o0] [(.long (p3.toInt64))])) rfl (hb hby d5_6) _ ?_
    refine XS.lmul X1.here hx rfl (hb hby d5_9) rfl ?_
    refine XS.aloadN X1.here hx rfl (hb hby d5_10) rfl rfl ?_
    refine st2 _ ?_
    show Steps p.tables e below (T2.setTop (mkF m 14 #[va o0] [(.int 0), (.long ((p3.toInt64) * (8 : Int64)))])) _
    refine XS.i2l X2.here hx rfl (hb hby d5_14) rfl ?_
    show Steps p.tables e below (T2.setTop (mkF m 15 #[va o0] [(.long ((0 : Int32).toInt64)), (.long ((p3.toInt64) * (8 : Int64)))])) _
    rw [show (((0 : Int32).toInt64) : Int64) = (0 : Int64) from by decide]
    refine XS.aloadN X2.here hx rfl (hb hby d5_15) rfl rfl ?_
    refine st3 _ ?_
    refine XS.i2l X3.here hx rfl (hb hby d5_19) rfl ?_
    refine XS.aloadN X3.here hx rfl (hb hby d5_20) rfl rfl ?_
    refine st4 _ ?_
    refine XS.i2l X4.here hx rfl (hb hby d5_24) rfl ?_
    refine XS.lmul X4.here hx rfl (hb hby d5_25) rfl ?_
    show Steps p.tables e below (T4.setTop (mkF m 26 #[va o0] [(.long ((p2.toInt64) * (p1.toInt64))), (.long 0), (.long ((p3.toInt64) * (8 : Int64)))])) _
    refine XS.aloadN X4.here hx rfl (hb hby d5_26) rfl rfl ?_
    refine st5 _ ?_
    refine XS.bipush X5.here hx rfl (hb hby d5_30) ?_
    refine XS.idiv X5.here hx rfl (hb hby d5_32) rfl (by decide) ?_
    refine XS.i2l X5.here hx rfl (hb hby d5_33) rfl ?_
    refine XS.ladd X5.here hx rfl (hb hby d5_34) rfl ?_
    refine X5.ldc2Long hx hown (mvT hZ (ww hw 39 rfl)) (g := (mkF m 35 #[va o0] [(.long (((p2.toInt64) * (p1.toInt64)) + ((p2 / (8 : Int32)).toInt64))), (.long 0), (.long ((p3.toInt64) * (8 : Int64)))])) rfl (hb hby d5_35) _ ?_
    refine XS.ladd X5.here hx rfl (hb hby d5_38) rfl ?_
    show Steps p.tables e below (T5.setTop (mkF m 39 #[va o0] [(.long ((((p2.toInt64) * (p1.toInt64)) + ((p2 / (8 : Int32)).toInt64)) + (64 : Int64))), (.long 0), (.long ((p3.toInt64) * (8 : Int64)))])) _
    refine XS.lmul X5.here hx rfl (hb hby d5_39) rfl ?_
    refine XS.ladd X5.here hx rfl (hb hby d5_40) rfl ?_
    exact retOut X5 hx (t := .long) (i := .lreturn) hrt rfl (Or.inr (Or.inl ⟨rfl, rfl, _, rfl⟩)) (hb hby d5_41) hr
  · show Q5_0 Z  o0 o1 q0 p1 p2 p3 h0 n0 (some (.long (((p3.toInt64) * (8 : Int64)) + ((0 : Int64) * ((((p2.toInt64) * (p1.toInt64)) + ((p2 / (8 : Int32)).toInt64)) + (64 : Int64)))))) T5.heap _
    exact (⟨rfl, N0, e5⟩)
theorem pd_3 : parseMethodDescriptor "()J" = some ⟨[], some .long⟩ := by decide +kernel
theorem d6_0 : decode prog_47_method_2_code 0 = .ok (.lload_n 1, 1) := by decide +kernel
theorem d6_1 : decode prog_47_method_2_code 1 = .ok (.aload_n 0, 1) := by decide +kernel
theorem d6_2 : decode prog_47_method_2_code 2 = .ok (.getfield 21, 3) := by decide +kernel
theorem d6_5 : decode prog_47_method_2_code 5 = .ok (.i2l, 1) := by decide +kernel
theorem d6_6 : decode prog_47_method_2_code 6 = .ok (.ldiv, 1) := by decide +kernel
theorem d6_7 : decode prog_47_method_2_code 7 = .ok (.l2i, 1) := by decide +kernel
theorem d6_8 : decode prog_47_method_2_code 8 = .ok (.istore 4, 2) := by decide +kernel
theorem d6_10 : decode prog_47_method_2_code 10 = .ok (.aload_n 0, 1) := by decide +kernel
theorem d6_11 : decode prog_47_method_2_code 11 = .ok (.getfield 30, 3) := by decide +kernel
theorem d6_14 : decode prog_47_method_2_code 14 = .ok (.iload 4, 2) := by decide +kernel
theorem d6_16 : decode prog_47_method_2_code 16 = .ok (.aaload, 1) := by decide +kernel
theorem d6_17 : decode prog_47_method_2_code 17 = .ok (.astore 5, 2) := by decide +kernel
theorem d6_19 : decode prog_47_method_2_code 19 = .ok (.aload 5, 2) := by decide +kernel
theorem d6_21 : decode prog_47_method_2_code 21 = .ok (.ifnonnull 39, 3) := by decide +kernel
theorem d6_24 : decode prog_47_method_2_code 24 = .ok (.new 28, 3) := by decide +kernel
theorem d6_27 : decode prog_47_method_2_code 27 = .ok (.dup, 1) := by decide +kernel
theorem d6_28 : decode prog_47_method_2_code 28 = .ok (.aload_n 0, 1) := by decide +kernel
theorem d6_29 : decode prog_47_method_2_code 29 = .ok (.getfield 7, 3) := by decide +kernel
theorem d6_32 : decode prog_47_method_2_code 32 = .ok (.aload_n 0, 1) := by decide +kernel
theorem d6_33 : decode prog_47_method_2_code 33 = .ok (.getfield 21, 3) := by decide +kernel
theorem d6_36 : decode prog_47_method_2_code 36 = .ok (.invokespecial 34, 3) := by decide +kernel
theorem pn_2 : plainName "com/example/tributary/tributary/model/NodeHashes$Page" = true := by first | (simp [plainName, overriddenIn]; done) | decide +kernel
theorem d7_0 : decode prog_48_method_1_code 0 = .ok (.aload_n 0, 1) := by decide +kernel
theorem d7_1 : decode prog_48_method_1_code 1 = .ok (.invokespecial 1, 3) := by decide +kernel
theorem d7_4 : decode prog_48_method_1_code 4 = .ok (.aload_n 0, 1) := by decide +kernel
theorem d7_5 : decode prog_48_method_1_code 5 = .ok (.iload_n 2, 1) := by decide +kernel
theorem d7_6 : decode prog_48_method_1_code 6 = .ok (.iload_n 1, 1) := by decide +kernel
theorem d7_7 : decode prog_48_method_1_code 7 = .ok (.imul, 1) := by decide +kernel
theorem d7_8 : decode prog_48_method_1_code 8 = .ok (.newarray .byte, 2) := by decide +kernel
theorem d7_10 : decode prog_48_method_1_code 10 = .ok (.putfield 7, 3) := by decide +kernel
theorem d7_13 : decode prog_48_method_1_code 13 = .ok (.aload_n 0, 1) := by decide +kernel
theorem d7_14 : decode prog_48_method_1_code 14 = .ok (.new 13, 3) := by decide +kernel
theorem d7_17 : decode prog_48_method_1_code 17 = .ok (.dup, 1) := by decide +kernel
theorem d7_18 : decode prog_48_method_1_code 18 = .ok (.iload_n 2, 1) := by decide +kernel
theorem d7_19 : decode prog_48_method_1_code 19 = .ok (.invokespecial 15, 3) := by decide +kernel
theorem pn_3 : plainName "java/util/BitSet" = true := by first | (simp [plainName, overriddenIn]; done) | decide +kernel
theorem d8_0 : decode jdk_92_method_5_code 0 = .ok (.aload_n 0, 1) := by decide +kernel
theorem d8_1 : decode jdk_92_method_5_code 1 = .ok (.invokespecial 21, 3) := by decide +kernel
theorem d8_4 : decode jdk_92_method_5_code 4 = .ok (.aload_n 0, 1) := by decide +kernel
theorem d8_5 : decode jdk_92_method_5_code 5 = .ok (.iconst 0, 1) := by decide +kernel
theorem d8_6 : decode jdk_92_method_5_code 6 = .ok (.putfield 7, 3) := by decide +kernel
theorem d8_9 : decode jdk_92_method_5_code 9 = .ok (.aload_n 0, 1) := by decide +kernel
theorem d8_10 : decode jdk_92_method_5_code 10 = .ok (.iconst 0, 1) := by decide +kernel
theorem d8_11 : decode jdk_92_method_5_code 11 = .ok (.putfield 24, 3) := by decide +kernel
theorem d8_14 : decode jdk_92_method_5_code 14 = .ok (.iload_n 1, 1) := by decide +kernel
theorem d8_15 : decode jdk_92_method_5_code 15 = .ok (.ifCond .ge 30, 3) := by decide +kernel
theorem d8_45 : decode jdk_92_method_5_code 45 = .ok (.aload_n 0, 1) := by decide +kernel
theorem d8_46 : decode jdk_92_method_5_code 46 = .ok (.iload_n 1, 1) := by decide +kernel
theorem d8_47 : decode jdk_92_method_5_code 47 = .ok (.invokevirtual 27, 3) := by decide +kernel
theorem d9_0 : decode jdk_92_method_6_code 0 = .ok (.aload_n 0, 1) := by decide +kernel
theorem d9_1 : decode jdk_92_method_6_code 1 = .ok (.iload_n 1, 1) := by decide +kernel
theorem d9_2 : decode jdk_92_method_6_code 2 = .ok (.iconst 1, 1) := by decide +kernel
theorem d9_3 : decode jdk_92_method_6_code 3 = .ok (.isub, 1) := by decide +kernel
theorem d9_4 : decode jdk_92_method_6_code 4 = .ok (.invokestatic 52, 3) := by decide +kernel
theorem d10_0 : decode jdk_92_method_1_code 0 = .ok (.iload_n 0, 1) := by decide +kernel
theorem d10_1 : decode jdk_92_method_1_code 1 = .ok (.bipush 6, 2) := by decide +kernel
theorem d10_3 : decode jdk_92_method_1_code 3 = .ok (.ishr, 1) := by decide +kernel
theorem d10_4 : decode jdk_92_method_1_code 4 = .ok (.ireturn, 1) := by decide +kernel
def Q10_0 (Z : State) (p0 : Int32) (h0 : Heap) (n0 : Nat) (v : Option Value) (h : Heap) (L : List Loc) : Prop := v = (some (.int (p0 >>> ((6 : Int32) &&& 31)))) ∧ Fr n0 L ∧ h = h0
theorem rm10_0 (l : Launch) (Z : State) (a0 : Array Value) (hw : HW Z a0) (ws : List Jvm.Cond) (p0 : Int32) (h0 : Heap) (n0 : Nat) (O0 : Old Z n0 h0) (S : SF Z ) :
    Pay l Z My10 ws jdk_92_method_1_code 1 (some .int) #[(.int p0)] h0 ({ frames := 0, cells := 0, slots := 0, locals := 0 } : Room) (Q10_0 Z  p0 h0 n0) := by
  refine own_body (plainFor_of_name pn_3) (L0 := #[vi p0]) (fun _ => by first | rfl | (simp [entryFrame, mkF, argsToLocals, Value.category]; done)) ?_
  intro p e s m below meth c s₁ hrt hlk hx hby hml hZ hown0 hnm X0 e0
  have hown : s.vm.findClass sC1 = some m.cls := hown0
  have N0 := Fr.nil n0
  have K0 : Keep h0 h0 [] := Keep.refl _ _
  obtain ⟨fs, hr, hrun, hended, hW, hsame⟩ := X0.leave (v := (some (.int (p0 >>> ((6 : Int32) &&& 31))))) (fun h => by rw [hrt] at h; cases h) hlk
  refine ⟨_, _, ?_, hrun, hended, _, _, rfl, ?_, ⟨_, rfl⟩, hW, hsame.mono (by decide) (by decide)⟩
  · show Steps p.tables e below (s₁.setTop (mkF m 0 #[vi p0] [])) _
    refine XS.iloadN X0.here hx rfl (hb hby d10_0) rfl ?_
    refine XS.bipush X0.here hx rfl (hb hby d10_1) ?_
    refine XS.ishr X0.here hx rfl (hb hby d10_3) rfl ?_
    exact retOut X0 hx (t := .int) (i := .ireturn) hrt rfl (Or.inl ⟨rfl, Or.inl rfl, _, rfl⟩) (hb hby d10_4) hr
  · show Q10_0 Z  p0 h0 n0 (some (.int (p0 >>> ((6 : Int32) &&& 31)))) s₁.heap _
    exact (⟨rfl, N0, e0⟩)
theorem pd_4 : parseMethodDescriptor "(I)I" = some ⟨[.int], some .int⟩ := by decide +kernel
theorem d9_7 : decode jdk_92_method_6_code 7 = .ok (.iconst 1, 1) := by decide +kernel
theorem d9_8 : decode jdk_92_method_6_code 8 = .ok (.iadd, 1) := by decide +kernel
theorem d9_9 : decode jdk_92_method_6_code 9 = .ok (.newarray .long, 2) := by decide +kernel
theorem d9_11 : decode jdk_92_method_6_code 11 = .ok (.putfield 11, 3) := by decide +kernel
theorem d9_14 : decode jdk_92_method_6_code 14 = .ok (.return_, 1) := by decide +kernel
def Q9_0 (Z : State) (o0 : Addr) (p0 : Int32) (h0 : Heap) (n0 : Nat) (v : Option Value) (h : Heap) (L : List Loc) : Prop := ∃ (b3 : Addr), v = none ∧ Fr n0 L ∧ Keep h0 h [o0] ∧ Exa Z h o0 sC1 ∧ Fld Z h o0 sC1 "sizeIsSticky" "Z" (.int 0) ∧ Fld Z h o0 sC1 "words" "[J" (.ref b3) ∧ Fld Z h o0 sC1 "wordsInUse" "I" (.int 0) ∧ LA Z h b3 (((p0 - (1 : Int32)) >>> ((6 : Int32) &&& 31)) + (1 : Int32)) ∧ h0.size ≤ b3
theorem rm9_0 (l : Launch) (Z : State) (a0 : Array Value) (hw : HW Z a0) (ws : List Jvm.Cond) (o0 : Addr) (p0 : Int32) (h0 : Heap) (n0 : Nat) (O0 : Old Z n0 h0) (S : SF Z ) (E_o0 : Exa Z h0 o0 sC1) (F_sizeIsSticky_o0 : Fld Z h0 o0 sC1 "sizeIsSticky" "Z" (.int 0)) (F_words_o0 : Fld Z h0 o0 sC1 "words" "[J" .null) (F_wordsInUse_o0 : Fld Z h0 o0 sC1 "wordsInUse" "I" (.int 0)) (g_o0 : n0 ≤ o0) (hcap : cap4 (((p0 - (1 : Int32)) >>> ((6 : Int32) &&& 31)) + (1 : Int32))) :
    Pay l Z (⟨sC1, "initWords", "(I)V"⟩ : MethodName) ws jdk_92_method_6_code 2 none #[(.ref o0), (.int p0)] h0 ({ frames := 1, cells := 1, slots := 4, locals := 13 } : Room) (Q9_0 Z  o0 p0 h0 n0) := by
  refine own_body (plainFor_of_name pn_3) (L0 := #[va o0, vi p0]) (fun _ => by first | rfl | (simp [entryFrame, mkF, argsToLocals, Value.category]; done)) ?_
  intro p e s m below meth c s₁ hrt hlk hx hby hml hZ hown0 hnm X0 e0
  have hown : s.vm.findClass sC1 = some m.cls := hown0
  have N0 := Fr.nil n0
  have K0 : Keep h0 h0 [o0] := Keep.refl _ _
  obtain ⟨_, _, ⟨T1, L1, k1, n1⟩, -, X1, ⟨Lc1, hQ1, l1, y1, z1⟩, st1⟩ := Jvm.LawKit.callS X0 hx (y := My10) hown (mvT hZ (ww hw 69 rfl)) (mvT hZ (ww hw 70 rfl)) (mvT hZ (ww hw 55 rfl)) (mvT hZ (ww hw 71 rfl)) (by decide) (backOf (W := 1) (rm10_0 l Z a0 hw []  (p0 - (1 : Int32)) h0 n0 O0 S) hZ (ww hw 71 rfl) (ww hw 55 rfl) (by decide) (by decide)) (g := (mkF m 4 #[va o0, vi p0] [(.int (p0 - (1 : Int32))), (.ref o0)])) rfl (by rw [hml]; rfl) (argsL := [(.int (p0 - (1 : Int32)))]) (rest := [(.ref o0)]) (lenOf pd_4 rfl) rfl (by show 2 * 0 + _ ≤ _; exact Nat.le_of_eq rfl) (hb hby d9_4) (fun _ _ => ⟨rfl, e0, (by decide : 0 + 0 ≤ _), (by decide : 0 + 0 ≤ _)⟩)
  dsimp only [Pt.U, Pt.locs, Pt.cells, Pt.slots] at X1 l1 y1 z1 st1 hQ1
  subst l1 y1 z1
  obtain ⟨rfl, Nq1, e1⟩ := hQ1
  have N1 := Fr.app N0 Nq1
  have hc2 : cap4 (((p0 - (1 : Int32)) >>> ((6 : Int32) &&& 31)) + (1 : Int32)) := hcap
  obtain ⟨T3, h3, k3, X3, e3, E3, A3, st3⟩ := newP X1 hx hZ (ww hw 72 rfl) e1 (g := (mkF m 9 #[va o0, vi p0] [(.int (((p0 - (1 : Int32)) >>> ((6 : Int32) &&& 31)) + (1 : Int32))), (.ref o0)])) rfl (hb hby d9_9) rfl hc2.1 (cap := 4) hc2.2 (by decide) (by decide) (by decide)
  obtain ⟨b3, qs3⟩ : ∃ z, z = h0.size := ⟨_, rfl⟩
  rw [← qs3] at A3 st3
  have ne_o0_b3 : o0 ≠ b3 := Nat.ne_of_lt (Nat.lt_of_lt_of_le E_o0.lt (Nat.le_of_eq qs3.symm))
  have g_b3 : n0 ≤ b3 := Nat.le_trans (own_old O0) (Nat.le_of_eq qs3.symm)
  have sz_b3 : h0.size ≤ b3 := Nat.le_trans K0.1 (Nat.le_of_eq qs3.symm)
  have O3 := O0.ext E3
  have K3 : Keep h0 h3 [o0] := K0.ext E3
  have V_b3 : LA Z h3 b3 (((p0 - (1 : Int32)) >>> ((6 : Int32) &&& 31)) + (1 : Int32)) := LA.new A3 hc2.1
  have fc4 := (F_words_o0.ext E3)
  have fc5 := (E_o0.ext E3)
  obtain ⟨T6, h6, X6, e6, W6, st6⟩ := putF X3 hx hZ hown (host := "") (Or.inl (ww hw 73 rfl)) Via.refl e3 fc4 fc5 (Or.inl (ww hw 74 rfl)) (ww hw 54 rfl) (ty := (.array .long)) (by decide) rfl rfl (g := (mkF m 11 #[va o0, vi p0] [(.ref b3), (.ref o0)])) rfl rfl (hb hby d9_11)
  have Fw6 := fc4.same W6
  have O6 := O3.wr W6 g_o0
  have K6 : Keep h0 h6 [o0] := K3.wr W6 (Or.inl (List.mem_of_getElem? (i := 0) rfl))
  have N6 := Fr.snoc X6 N1 g_o0
  obtain ⟨fs, hr, hrun, hended, hW, hsame⟩ := X6.leave (v := none) (fun _ => rfl) hlk
  have fc7 := (fc5.wr W6)
  have fc8 := ((F_sizeIsSticky_o0.ext E3).other W6 (Or.inr (slot_ne (Or.inl (ww hw 63 rfl)) (Or.inl (ww hw 74 rfl)) (by decide) (t := .boolean) (t' := (.array .long)) (by decide) (by decide))))
  have fc9 := ((F_wordsInUse_o0.ext E3).other W6 (Or.inr (slot_ne (Or.inl (ww hw 61 rfl)) (Or.inl (ww hw 74 rfl)) (by decide) (t := .int) (t' := (.array .long)) (by decide) (by decide))))
  have fc10 := (V_b3.other W6 (Ne.symm ne_o0_b3))
  refine ⟨_, _, ?_, hrun, hended, _, _, rfl, ?_, ⟨_, rfl⟩, hW, hsame.mono (by decide) (by decide)⟩
  · show Steps p.tables e below (s₁.setTop (mkF m 0 #[va o0, vi p0] [])) _
    refine XS.aloadN X0.here hx rfl (hb hby d9_0) rfl rfl ?_
    refine XS.iloadN X0.here hx rfl (hb hby d9_1) rfl ?_
    refine XS.iconst X0.here hx rfl (hb hby d9_2) ?_
    refine XS.isub X0.here hx rfl (hb hby d9_3) rfl ?_
    refine st1 _ ?_
    refine XS.iconst X1.here hx rfl (hb hby d9_7) ?_
    refine XS.iadd X1.here hx rfl (hb hby d9_8) rfl ?_
    refine st3 _ ?_
    show Steps p.tables e below (T3.setTop (mkF m 11 #[va o0, vi p0] [(.ref b3), (.ref o0)])) _
    refine st6 _ ?_
    exact X6.returnOut hx hrt (hb hby d9_14) hr
  · show Q9_0 Z  o0 p0 h0 n0 none T6.heap _
    rw [e6]; exact ⟨b3, rfl, N6, K6, fc7, fc8, Fw6, fc9, fc10, sz_b3⟩
theorem pd_5 : parseMethodDescriptor "(I)V" = some ⟨[.int], none⟩ := by decide +kernel
theorem d8_50 : decode jdk_92_method_5_code 50 = .ok (.aload_n 0, 1) := by decide +kernel
theorem d8_51 : decode jdk_92_method_5_code 51 = .ok (.iconst 1, 1) := by decide +kernel
theorem d8_52 : decode jdk_92_method_5_code 52 = .ok (.putfield 24, 3) := by decide +kernel
theorem d8_55 : decode jdk_92_method_5_code 55 = .ok (.return_, 1) := by decide +kernel
def Q8_0 (Z : State) (o0 : Addr) (p0 : Int32) (h0 : Heap) (n0 : Nat) (v : Option Value) (h : Heap) (L : List Loc) : Prop := ∃ (b3_10 : Addr), v = none ∧ Fr n0 L ∧ Keep h0 h [o0] ∧ Exa Z h o0 sC1 ∧ Fld Z h o0 sC1 "sizeIsSticky" "Z" (.int 1) ∧ Fld Z h o0 sC1 "words" "[J" (.ref b3_10) ∧ Fld Z h o0 sC1 "wordsInUse" "I" (.int 0) ∧ LA Z h b3_10 (((p0 - (1 : Int32)) >>> ((6 : Int32) &&& 31)) + (1 : Int32)) ∧ h0.size ≤ b3_10
theorem rm8_0 (l : Launch) (Z : State) (a0 : Array Value) (hw : HW Z a0) (ws : List Jvm.Cond) (o0 : Addr) (p0 : Int32) (h0 : Heap) (n0 : Nat) (O0 : Old Z n0 h0) (S : SF Z ) (E_o0 : Exa Z h0 o0 sC1) (F_sizeIsSticky_o0 : Fld Z h0 o0 sC1 "sizeIsSticky" "Z" (.int 0)) (F_words_o0 : Fld Z h0 o0 sC1 "words" "[J" .null) (F_wordsInUse_o0 : Fld Z h0 o0 sC1 "wordsInUse" "I" (.int 0)) (g_o0 : n0 ≤ o0) (hp : ¬ (p0 < (0 : Int32))) (hcap : cap4 (((p0 - (1 : Int32)) >>> ((6 : Int32) &&& 31)) + (1 : Int32))) :
    Pay l Z (⟨sC1, "<init>", "(I)V"⟩ : MethodName) ws jdk_92_method_5_code 2 none #[(.ref o0), (.int p0)] h0 ({ frames := 2, cells := 1, slots := 4, locals := 26 } : Room) (Q8_0 Z  o0 p0 h0 n0) := by
  refine own_body (plainFor_of_name pn_3) (L0 := #[va o0, vi p0]) (fun _ => by first | rfl | (simp [entryFrame, mkF, argsToLocals, Value.category]; done)) ?_
  intro p e s m below meth c s₁ hrt hlk hx hby hml hZ hown0 hnm X0 e0
  have hown : s.vm.findClass sC1 = some m.cls := hown0
  have N0 := Fr.nil n0
  have K0 : Keep h0 h0 [o0] := Keep.refl _ _
  obtain ⟨T1, X1, e1, st1⟩ := initO X0 hx hZ hown (ww hw 59 rfl) (ww hw 13 rfl) (ww hw 14 rfl) e0 (g := (mkF m 1 #[va o0, vi p0] [(.ref o0)])) rfl (by rw [hml]; rfl) rfl (hb hby d8_1) (by decide) (W := 0) (by show 2 * 0 + _ ≤ _; exact Nat.le_of_eq rfl) (by decide)
  obtain ⟨T2, h2, X2, e2, W2, st2⟩ := putF X1 hx hZ hown (host := "") (Or.inl (ww hw 60 rfl)) Via.refl e1 F_wordsInUse_o0 E_o0 (Or.inl (ww hw 61 rfl)) (ww hw 54 rfl) (ty := .int) (by decide) rfl rfl (g := (mkF m 6 #[va o0, vi p0] [(.int 0), (.ref o0)])) rfl rfl (hb hby d8_6)
  have Fw2 := F_wordsInUse_o0.same W2
  have O2 := O0.wr W2 g_o0
  have K2 : Keep h0 h2 [o0] := K0.wr W2 (Or.inl (List.mem_of_getElem? (i := 0) rfl))
  have N2 := Fr.snoc X2 N0 g_o0
  have fc3 := (F_sizeIsSticky_o0.other W2 (Or.inr (slot_ne (Or.inl (ww hw 63 rfl)) (Or.inl (ww hw 61 rfl)) (by decide) (t := .boolean) (t' := .int) (by decide) (by decide))))
  have fc4 := (E_o0.wr W2)
  obtain ⟨T5, h5, X5, e5, W5, st5⟩ := putFN X2 hx hZ hown (ww hw 62 rfl) Via.refl e2 fc3 fc4 (Or.inl (ww hw 63 rfl)) (ww hw 54 rfl) (ty := .boolean) (v' := (.int 0)) (by decide) rfl (by decide) (g := (mkF m 11 #[va o0, vi p0] [(.int 0), (.ref o0)])) rfl rfl (hb hby d8_11)
  have Fw5 := fc3.same W5
  have O5 := O2.wr W5 g_o0
  have K5 : Keep h0 h5 [o0] := K2.wr W5 (Or.inl (List.mem_of_getElem? (i := 0) rfl))
  have N5 := Fr.snoc X5 N2 g_o0
  have hc6 : ¬ (p0 < (0 : Int32)) := hp
  have fc7 := (fc4.wr W5)
  have fc8 := ((F_words_o0.other W2 (Or.inr (slot_ne (Or.inl (ww hw 74 rfl)) (Or.inl (ww hw 61 rfl)) (by decide) (t := (.array .long)) (t' := .int) (by decide) (by decide)))).other W5 (Or.inr (slot_ne (Or.inl (ww hw 74 rfl)) (Or.inl (ww hw 63 rfl)) (by decide) (t := (.array .long)) (t' := .boolean) (by decide) (by decide))))
  have fc9 := (Fw2.other W5 (Or.inr (slot_ne (Or.inl (ww hw 61 rfl)) (Or.inl (ww hw 63 rfl)) (by decide) (t := .int) (t' := .boolean) (by decide) (by decide))))
  obtain ⟨cq10, qa10, qb10⟩ := fc7.cell
  obtain ⟨_, _, ⟨T10, L10, k10, n10⟩, -, X10, ⟨Lc10, hQ10, l10, y10, z10⟩, st10⟩ := X5.privateBack hx (y := (⟨sC1, "initWords", "(I)V"⟩ : MethodName)) hown (mvT hZ (ww hw 64 rfl)) (mvT hZ (ww hw 65 rfl)) (own_selp (by decide) (mvT hZ (ww hw 54 rfl)) (mvP hZ (ww hw 66 rfl)) (mvT hZ (ww hw 65 rfl))) (Cond.privateMethod_at (mvP hZ (ww hw 66 rfl) (args := #[]))) (mvT hZ (ww hw 68 rfl)) (by decide) (backOf (W := 0) (rm9_0 l Z a0 hw []  o0 p0 h5 n0 O5 S fc7 Fw5 fc8 fc9 g_o0 hcap) hZ (ww hw 68 rfl) (ww hw 55 rfl) (by decide) (by decide)) (g := (mkF m 47 #[va o0, vi p0] [(.int p0), (.ref o0)])) rfl (by rw [hml]; rfl) (Steps.refl _) (a := o0) (by rw [e5]; exact qa10) qb10 (argsL := [(.int p0)]) (rest := []) (lenOf pd_5 rfl) rfl (by show 2 * 0 + _ ≤ _; exact Nat.le_of_eq rfl) (hb hby d8_47) (fun _ _ => ⟨rfl, e5, (by decide : 0 + 1 ≤ _), (by decide : 0 + 4 ≤ _)⟩)
  dsimp only [Pt.U, Pt.locs, Pt.cells, Pt.slots] at X10 l10 y10 z10 st10 hQ10
  subst l10 y10 z10
  obtain ⟨b3_10, rfl, Nq10, Kc10, P0_10, P1_10, P2_10, P3_10, P4_10, P5_10⟩ := hQ10
  have N10 := Fr.app N5 Nq10
  have ne_o0_b3_10 : o0 ≠ b3_10 := Nat.ne_of_lt (Nat.lt_of_lt_of_le fc7.lt P5_10)
  have g_b3_10 : n0 ≤ b3_10 := Nat.le_trans (own_old O5) P5_10
  have sz_b3_10 : h0.size ≤ b3_10 := Nat.le_trans K5.1 P5_10
  have O10 := O5.keep Kc10 (allS g_o0 all0)
  have K10 : Keep h0 T10.heap [o0] := K5.trans Kc10 (allS (Or.inl (List.mem_of_getElem? (i := 0) rfl)) all0)
  obtain ⟨T11, h11, X11, e11, W11, st11⟩ := putFN X10 hx hZ hown (ww hw 62 rfl) Via.refl rfl P1_10 P0_10 (Or.inl (ww hw 63 rfl)) (ww hw 54 rfl) (ty := .boolean) (v' := (.int 1)) (by decide) rfl (by decide) (g := (mkF m 52 #[va o0, vi p0] [(.int 1), (.ref o0)])) rfl rfl (hb hby d8_52)
  have Fw11 := P1_10.same W11
  have O11 := O10.wr W11 g_o0
  have K11 : Keep h0 h11 [o0] := K10.wr W11 (Or.inl (List.mem_of_getElem? (i := 0) rfl))
  have N11 := Fr.snoc X11 N10 g_o0
  obtain ⟨fs, hr, hrun, hended, hW, hsame⟩ := X11.leave (v := none) (fun _ => rfl) hlk
  have fc12 := (P0_10.wr W11)
  have fc13 := (P2_10.other W11 (Or.inr (slot_ne (Or.inl (ww hw 74 rfl)) (Or.inl (ww hw 63 rfl)) (by decide) (t := (.array .long)) (t' := .boolean) (by decide) (by decide))))
  have fc14 := (P3_10.other W11 (Or.inr (slot_ne (Or.inl (ww hw 61 rfl)) (Or.inl (ww hw 63 rfl)) (by decide) (t := .int) (t' := .boolean) (by decide) (by decide))))
  have fc15 := (P4_10.other W11 (Ne.symm ne_o0_b3_10))
  refine ⟨_, _, ?_, hrun, hended, _, _, rfl, ?_, ⟨_, rfl⟩, hW, hsame.mono (by decide) (by decide)⟩
  · show Steps p.tables e below (s₁.setTop (mkF m 0 #[va o0, vi p0] [])) _
    refine XS.aloadN X0.here hx rfl (hb hby d8_0) rfl rfl ?_
    refine st1 _ ?_
    refine XS.aloadN X1.here hx rfl (hb hby d8_4) rfl rfl ?_
    refine XS.iconst X1.here hx rfl (hb hby d8_5) ?_
    refine st2 _ ?_
    refine XS.aloadN X2.here hx rfl (hb hby d8_9) rfl rfl ?_
    refine XS.iconst X2.here hx rfl (hb hby d8_10) ?_
    refine st5 _ ?_
    show Steps p.tables e below (T5.setTop (mkF m 14 #[va o0, vi p0] [])) _
    refine XS.iloadN X5.here hx rfl (hb hby d8_14) rfl ?_
    refine XS.ifYes X5.here hx rfl (pc0 := 15) (pc' := 45) rfl (hb hby d8_15) rfl ((if0 _ _).trans (flt hc6).2.1) (by decide) (by decide) ?_
    refine XS.aloadN X5.here hx rfl (hb hby d8_45) rfl rfl ?_
    refine XS.iloadN X5.here hx rfl (hb hby d8_46) rfl ?_
    refine st10.trans ?_
    refine XS.aloadN X10.here hx rfl (hb hby d8_50) rfl rfl ?_
    refine XS.iconst X10.here hx rfl (hb hby d8_51) ?_
    refine st11 _ ?_
    show Steps p.tables e below (T11.setTop (mkF m 55 #[va o0, vi p0] [])) _
    exact X11.returnOut hx hrt (hb hby d8_55) hr
  · show Q8_0 Z  o0 p0 h0 n0 none T11.heap _
    rw [e11]; exact ⟨b3_10, rfl, N11, K11, fc12, Fw11, fc13, fc14, fc15, sz_b3_10⟩
theorem d7_22 : decode prog_48_method_1_code 22 = .ok (.putfield 18, 3) := by decide +kernel
theorem d7_25 : decode prog_48_method_1_code 25 = .ok (.return_, 1) := by decide +kernel
def Q7_0 (Z : State) (o0 : Addr) (p0 : Int32) (p1 : Int32) (h0 : Heap) (n0 : Nat) (v : Option Value) (h : Heap) (L : List Loc) : Prop := ∃ (b3 : Addr), ∃ (b9 : Addr), ∃ (b3_10_10 : Addr), v = none ∧ Fr n0 L ∧ Keep h0 h [o0] ∧ Exa Z h o0 sC2 ∧ Fld Z h o0 sC2 "hashes" "[B" (.ref b3) ∧ Fld Z h o0 sC2 "held" "Ljava/util/BitSet;" (.ref b9) ∧ BA Z h b3 (p1 * p0) ∧ Exa Z h b9 sC1 ∧ Fld Z h b9 sC1 "words" "[J" (.ref b3_10_10) ∧ Fld Z h b9 sC1 "wordsInUse" "I" (.int 0) ∧ LA Z h b3_10_10 (((p1 - (1 : Int32)) >>> ((6 : Int32) &&& 31)) + (1 : Int32)) ∧ h0.size ≤ b3 ∧ h0.size ≤ b9 ∧ h0.size ≤ b3_10_10 ∧ b3 ≠ b9 ∧ b3 ≠ b3_10_10 ∧ b9 ≠ b3_10_10
theorem rm7_0 (l : Launch) (Z : State) (a0 : Array Value) (hw : HW Z a0) (ws : List Jvm.Cond) (o0 : Addr) (p0 : Int32) (p1 : Int32) (h0 : Heap) (n0 : Nat) (O0 : Old Z n0 h0) (S : SF Z ) (E_o0 : Exa Z h0 o0 sC2) (F_hashes_o0 : Fld Z h0 o0 sC2 "hashes" "[B" .null) (F_held_o0 : Fld Z h0 o0 sC2 "held" "Ljava/util/BitSet;" .null) (g_o0 : n0 ≤ o0) (hB : capB (p1 * p0)) (hp : ¬ (p1 < (0 : Int32))) (hcap : cap4 (((p1 - (1 : Int32)) >>> ((6 : Int32) &&& 31)) + (1 : Int32))) :
    Pay l Z (⟨sC2, "<init>", "(II)V"⟩ : MethodName) ws prog_48_method_1_code 3 none #[(.ref o0), (.int p0), (.int p1)] h0 ({ frames := 3, cells := 3, slots := 16135, locals := 41 } : Room) (Q7_0 Z  o0 p0 p1 h0 n0) := by
  refine own_body (plainFor_of_name pn_2) (L0 := #[va o0, vi p0, vi p1]) (fun _ => by first | rfl | (simp [entryFrame, mkF, argsToLocals, Value.category]; done)) ?_
  intro p e s m below meth c s₁ hrt hlk hx hby hml hZ hown0 hnm X0 e0
  have hown : s.vm.findClass sC2 = some m.cls := hown0
  have N0 := Fr.nil n0
  have K0 : Keep h0 h0 [o0] := Keep.refl _ _
  obtain ⟨T1, X1, e1, st1⟩ := initO X0 hx hZ hown (ww hw 50 rfl) (ww hw 13 rfl) (ww hw 14 rfl) e0 (g := (mkF m 1 #[va o0, vi p0, vi p1] [(.ref o0)])) rfl (by rw [hml]; rfl) rfl (hb hby d7_1) (by decide) (W := 0) (by show 2 * 0 + _ ≤ _; exact Nat.le_of_eq rfl) (by decide)
  have hc2 : capB (p1 * p0) := hB
  obtain ⟨T3, h3, k3, X3, e3, E3, A3, st3⟩ := newP X1 hx hZ (ww hw 2 rfl) e1 (g := (mkF m 8 #[va o0, vi p0, vi p1] [(.int (p1 * p0)), (.ref o0)])) rfl (hb hby d7_8) rfl hc2.1 (cap := 16128) hc2.2 (by decide) (by decide) (by decide)
  obtain ⟨b3, qs3⟩ : ∃ z, z = h0.size := ⟨_, rfl⟩
  rw [← qs3] at A3 st3
  have ne_o0_b3 : o0 ≠ b3 := Nat.ne_of_lt (Nat.lt_of_lt_of_le E_o0.lt (Nat.le_of_eq qs3.symm))
  have g_b3 : n0 ≤ b3 := Nat.le_trans (own_old O0) (Nat.le_of_eq qs3.symm)
  have sz_b3 : h0.size ≤ b3 := Nat.le_trans K0.1 (Nat.le_of_eq qs3.symm)
  have O3 := O0.ext E3
  have K3 : Keep h0 h3 [o0] := K0.ext E3
  have V_b3 : BA Z h3 b3 (p1 * p0) := BA.new A3 hc2.1
  have fc4 := (F_hashes_o0.ext E3)
  have fc5 := (E_o0.ext E3)
  obtain ⟨T6, h6, X6, e6, W6, st6⟩ := putF X3 hx hZ hown (host := "") (Or.inl (ww hw 51 rfl)) Via.refl e3 fc4 fc5 (Or.inr ⟨(ww hw 52 rfl), rfl, hnm⟩) (ww hw 45 rfl) (ty := (.array .byte)) (by decide) rfl rfl (g := (mkF m 10 #[va o0, vi p0, vi p1] [(.ref b3), (.ref o0)])) rfl rfl (hb hby d7_10)
  have Fw6 := fc4.same W6
  have O6 := O3.wr W6 g_o0
  have K6 : Keep h0 h6 [o0] := K3.wr W6 (Or.inl (List.mem_of_getElem? (i := 0) rfl))
  have N6 := Fr.snoc X6 N0 g_o0
  have fc7 := (fc5.wr W6)
  have fc8 := (V_b3.other W6 (Ne.symm ne_o0_b3))
  obtain ⟨T9, h9, X9, e9, E9, A9, D9, -, st9⟩ := newO X6 hx hZ hown (ww hw 53 rfl) (ww hw 54 rfl) (ww hw 55 rfl) e6 (g := (mkF m 14 #[va o0, vi p0, vi p1] [(.ref o0)])) rfl (hb hby d7_14) (by decide) (by decide)
  obtain ⟨b9, qs9⟩ : ∃ z, z = h6.size := ⟨_, rfl⟩
  rw [← qs9] at A9 D9 st9
  have ne_o0_b9 : o0 ≠ b9 := Nat.ne_of_lt (Nat.lt_of_lt_of_le fc7.lt (Nat.le_of_eq qs9.symm))
  have ne_b3_b9 : b3 ≠ b9 := Nat.ne_of_lt (Nat.lt_of_lt_of_le fc8.lt (Nat.le_of_eq qs9.symm))
  have g_b9 : n0 ≤ b9 := Nat.le_trans (own_old O6) (Nat.le_of_eq qs9.symm)
  have sz_b9 : h0.size ≤ b9 := Nat.le_trans K6.1 (Nat.le_of_eq qs9.symm)
  have O9 := O6.ext E9
  have K9 : Keep h0 h9 [o0] := K6.ext E9
  have F_wordsInUse_b9 : Fld Z h9 b9 sC1 "wordsInUse" "I" (.int 0) := D9 (Or.inl (ww hw 61 rfl)) (ty := .int) (by decide)
  have F_sizeIsSticky_b9 : Fld Z h9 b9 sC1 "sizeIsSticky" "Z" (.int 0) := D9 (Or.inl (ww hw 63 rfl)) (ty := .boolean) (by decide)
  have F_words_b9 : Fld Z h9 b9 sC1 "words" "[J" .null := D9 (Or.inl (ww hw 74 rfl)) (ty := (.array .long)) (by decide)
  obtain ⟨_, _, ⟨T10, L10, k10, n10⟩, -, X10, ⟨Lc10, hQ10, l10, y10, z10⟩, st10⟩ := X9.specialBack hx (y := (⟨sC1, "<init>", "(I)V"⟩ : MethodName)) rfl hown (mvT hZ (ww hw 56 rfl)) (mvT hZ (ww hw 57 rfl)) (mvT hZ (ww hw 58 rfl)) (by decide) (backOf (W := 2) (rm8_0 l Z a0 hw []  b9 p1 h9 n0 O9 S A9 F_sizeIsSticky_b9 F_words_b9 F_wordsInUse_b9 g_b9 hp hcap) hZ (ww hw 58 rfl) (ww hw 55 rfl) (by decide) (by decide)) (g := (mkF m 19 #[va o0, vi p0, vi p1] [(.int p1), (.ref b9), (.ref b9), (.ref o0)])) rfl (by rw [hml]; rfl) (Steps.refl _) (a := b9) (argsL := [(.int p1)]) (rest := [(.ref b9), (.ref o0)]) (lenOf pd_5 rfl) rfl (by show 2 * 0 + _ ≤ _; exact Nat.le_of_eq rfl) (hb hby d7_19) (fun _ _ => ⟨rfl, e9, (by decide : 2 + 1 ≤ _), (by decide : 16131 + 4 ≤ _)⟩)
  dsimp only [Pt.U, Pt.locs, Pt.cells, Pt.slots] at X10 l10 y10 z10 st10 hQ10
  subst l10 y10 z10
  have fc11 := (fc7.ext E9)
  have fc12 := (fc8.ext E9)
  obtain ⟨b3_10_10, rfl, Nq10, Kc10, P0_10, P1_10, P2_10, P3_10, P4_10, P5_10⟩ := hQ10
  have N10 := Fr.app N6 Nq10
  have ne_o0_b3_10_10 : o0 ≠ b3_10_10 := Nat.ne_of_lt (Nat.lt_of_lt_of_le fc11.lt P5_10)
  have ne_b3_b3_10_10 : b3 ≠ b3_10_10 := Nat.ne_of_lt (Nat.lt_of_lt_of_le fc12.lt P5_10)
  have ne_b9_b3_10_10 : b9 ≠ b3_10_10 := Nat.ne_of_lt (Nat.lt_of_lt_of_le A9.lt P5_10)
  have g_b3_10_10 : n0 ≤ b3_10_10 := Nat.le_trans (own_old O9) P5_10
  have sz_b3_10_10 : h0.size ≤ b3_10_10 := Nat.le_trans K9.1 P5_10
  have O10 := O9.keep Kc10 (allS g_b9 all0)
  have K10 : Keep h0 T10.heap [o0] := K9.trans Kc10 (allS (Or.inr sz_b9) all0)
  have fc13 := ((((F_held_o0.ext E3).other W6 (Or.inr (slot_ne (Or.inr (ww hw 76 rfl)) (Or.inr (ww hw 52 rfl)) (by decide) (t := (.object sC1)) (t' := (.array .byte)) (by decide) (by decide)))).ext E9).keep Kc10 (ninS ne_o0_b9 nin0))
  have fc14 := (fc11.keep Kc10)
  obtain ⟨T15, h15, X15, e15, W15, st15⟩ := putF X10 hx hZ hown (host := "") (Or.inl (ww hw 75 rfl)) Via.refl rfl fc13 fc14 (Or.inr ⟨(ww hw 76 rfl), rfl, hnm⟩) (ww hw 45 rfl) (ty := (.object sC1)) (by decide) rfl rfl (g := (mkF m 22 #[va o0, vi p0, vi p1] [(.ref b9), (.ref o0)])) rfl rfl (hb hby d7_22)
  have Fw15 := fc13.same W15
  have O15 := O10.wr W15 g_o0
  have K15 : Keep h0 h15 [o0] := K10.wr W15 (Or.inl (List.mem_of_getElem? (i := 0) rfl))
  have N15 := Fr.snoc X15 N10 g_o0
  obtain ⟨fs, hr, hrun, hended, hW, hsame⟩ := X15.leave (v := none) (fun _ => rfl) hlk
  have fc16 := (fc14.wr W15)
  have fc17 := (((Fw6.ext E9).keep Kc10 (ninS ne_o0_b9 nin0)).other W15 (Or.inr (slot_ne (Or.inr (ww hw 52 rfl)) (Or.inr (ww hw 76 rfl)) (by decide) (t := (.array .byte)) (t' := (.object sC1)) (by decide) (by decide))))
  have fc18 := ((fc12.keep Kc10 (ninS ne_b3_b9 nin0)).other W15 (Ne.symm ne_o0_b3))
  have fc19 := (P0_10.wr W15)
  have fc20 := (P2_10.other W15 (Or.inl (Ne.symm ne_o0_b9)))
  have fc21 := (P3_10.other W15 (Or.inl (Ne.symm ne_o0_b9)))
  have fc22 := (P4_10.other W15 (Ne.symm ne_o0_b3_10_10))
  refine ⟨_, _, ?_, hrun, hended, _, _, rfl, ?_, ⟨_, rfl⟩, hW, hsame.mono (by decide) (by decide)⟩
  · show Steps p.tables e below (s₁.setTop (mkF m 0 #[va o0, vi p0, vi p1] [])) _
    refine XS.aloadN X0.here hx rfl (hb hby d7_0) rfl rfl ?_
    refine st1 _ ?_
    refine XS.aloadN X1.here hx rfl (hb hby d7_4) rfl rfl ?_
    refine XS.iloadN X1.here hx rfl (hb hby d7_5) rfl ?_
    refine XS.iloadN X1.here hx rfl (hb hby d7_6) rfl ?_
    refine XS.imul X1.here hx rfl (hb hby d7_7) rfl ?_
    refine st3 _ ?_
    refine st6 _ ?_
    show Steps p.tables e below (T6.setTop (mkF m 13 #[va o0, vi p0, vi p1] [])) _
    refine XS.aloadN X6.here hx rfl (hb hby d7_13) rfl rfl ?_
    refine st9 _ ?_
    refine XS.dup X9.here hx rfl (hb hby d7_17) rfl rfl ?_
    refine XS.iloadN X9.here hx rfl (hb hby d7_18) rfl ?_
    refine st10.trans ?_
    refine st15 _ ?_
    exact X15.returnOut hx hrt (hb hby d7_25) hr
  · show Q7_0 Z  o0 p0 p1 h0 n0 none T15.heap _
    rw [e15]; exact ⟨b3, b9, b3_10_10, rfl, N15, K15, fc16, fc17, Fw15, fc18, fc19, fc20, fc21, fc22, sz_b3, sz_b9, sz_b3_10_10, ne_b3_b9, ne_b3_b3_10_10, ne_b9_b3_10_10⟩
theorem pd_6 : parseMethodDescriptor "(II)V" = some ⟨[.int, .int], none⟩ := by decide +kernel
theorem d6_39 : decode prog_47_method_2_code 39 = .ok (.astore 5, 2) := by decide +kernel
theorem d6_41 : decode prog_47_method_2_code 41 = .ok (.aload_n 0, 1) := by decide +kernel
theorem d6_42 : decode prog_47_method_2_code 42 = .ok (.getfield 30, 3) := by decide +kernel
theorem d6_45 : decode prog_47_method_2_code 45 = .ok (.iload 4, 2) := by decide +kernel
theorem d6_47 : decode prog_47_method_2_code 47 = .ok (.aload 5, 2) := by decide +kernel
theorem d6_49 : decode prog_47_method_2_code 49 = .ok (.aastore, 1) := by decide +kernel
theorem d6_50 : decode prog_47_method_2_code 50 = .ok (.aload_n 0, 1) := by decide +kernel
theorem d6_51 : decode prog_47_method_2_code 51 = .ok (.dup, 1) := by decide +kernel
theorem d6_52 : decode prog_47_method_2_code 52 = .ok (.getfield 37, 3) := by decide +kernel
theorem d6_55 : decode prog_47_method_2_code 55 = .ok (.iconst 1, 1) := by decide +kernel
theorem d6_56 : decode prog_47_method_2_code 56 = .ok (.iadd, 1) := by decide +kernel
theorem d6_57 : decode prog_47_method_2_code 57 = .ok (.putfield 37, 3) := by decide +kernel
theorem d6_60 : decode prog_47_method_2_code 60 = .ok (.lload_n 1, 1) := by decide +kernel
theorem d6_61 : decode prog_47_method_2_code 61 = .ok (.aload_n 0, 1) := by decide +kernel
theorem d6_62 : decode prog_47_method_2_code 62 = .ok (.getfield 21, 3) := by decide +kernel
theorem d6_65 : decode prog_47_method_2_code 65 = .ok (.i2l, 1) := by decide +kernel
theorem d6_66 : decode prog_47_method_2_code 66 = .ok (.lrem, 1) := by decide +kernel
theorem d6_67 : decode prog_47_method_2_code 67 = .ok (.l2i, 1) := by decide +kernel
theorem d6_68 : decode prog_47_method_2_code 68 = .ok (.istore 6, 2) := by decide +kernel
theorem d6_70 : decode prog_47_method_2_code 70 = .ok (.aload_n 3, 1) := by decide +kernel
theorem d6_71 : decode prog_47_method_2_code 71 = .ok (.iconst 0, 1) := by decide +kernel
theorem d6_72 : decode prog_47_method_2_code 72 = .ok (.aload 5, 2) := by decide +kernel
theorem d6_74 : decode prog_47_method_2_code 74 = .ok (.getfield 40, 3) := by decide +kernel
theorem d6_77 : decode prog_47_method_2_code 77 = .ok (.iload 6, 2) := by decide +kernel
theorem d6_79 : decode prog_47_method_2_code 79 = .ok (.aload_n 0, 1) := by decide +kernel
theorem d6_80 : decode prog_47_method_2_code 80 = .ok (.getfield 7, 3) := by decide +kernel
theorem d6_83 : decode prog_47_method_2_code 83 = .ok (.imul, 1) := by decide +kernel
theorem d6_84 : decode prog_47_method_2_code 84 = .ok (.aload_n 0, 1) := by decide +kernel
theorem d6_85 : decode prog_47_method_2_code 85 = .ok (.getfield 7, 3) := by decide +kernel
theorem d6_88 : decode prog_47_method_2_code 88 = .ok (.invokestatic 44, 3) := by decide +kernel
theorem d6_91 : decode prog_47_method_2_code 91 = .ok (.aload 5, 2) := by decide +kernel
theorem d6_93 : decode prog_47_method_2_code 93 = .ok (.getfield 50, 3) := by decide +kernel
theorem d6_96 : decode prog_47_method_2_code 96 = .ok (.iload 6, 2) := by decide +kernel
theorem d6_98 : decode prog_47_method_2_code 98 = .ok (.invokevirtual 54, 3) := by decide +kernel
theorem d11_0 : decode jdk_92_method_26_code 0 = .ok (.iload_n 1, 1) := by decide +kernel
theorem d11_1 : decode jdk_92_method_26_code 1 = .ok (.ifCond .ge 30, 3) := by decide +kernel
theorem d11_31 : decode jdk_92_method_26_code 31 = .ok (.aload_n 0, 1) := by decide +kernel
theorem d11_32 : decode jdk_92_method_26_code 32 = .ok (.invokevirtual 56, 3) := by decide +kernel
theorem d12_0 : decode jdk_92_method_2_code 0 = .ok (.getstatic 3, 3) := by decide +kernel
theorem d12_3 : decode jdk_92_method_2_code 3 = .ok (.ifCond .ne 34, 3) := by decide +kernel
theorem d12_37 : decode jdk_92_method_2_code 37 = .ok (.getstatic 3, 3) := by decide +kernel
theorem d12_40 : decode jdk_92_method_2_code 40 = .ok (.ifCond .ne 30, 3) := by decide +kernel
theorem d12_70 : decode jdk_92_method_2_code 70 = .ok (.getstatic 3, 3) := by decide +kernel
theorem d12_73 : decode jdk_92_method_2_code 73 = .ok (.ifCond .ne 37, 3) := by decide +kernel
theorem d12_110 : decode jdk_92_method_2_code 110 = .ok (.return_, 1) := by decide +kernel
def Q12_0 (Z : State) (o0 : Addr) (o1 : Addr) (p1 : Int32) (p0 : Int32) (h0 : Heap) (n0 : Nat) (v : Option Value) (h : Heap) (L : List Loc) : Prop := v = none ∧ Fr n0 L ∧ h = h0
theorem rm12_0 (l : Launch) (Z : State) (a0 : Array Value) (hw : HW Z a0) (ws : List Jvm.Cond) (o0 : Addr) (o1 : Addr) (p1 : Int32) (p0 : Int32) (h0 : Heap) (n0 : Nat) (O0 : Old Z n0 h0) (S : SF Z ) :
    Pay l Z My12 ws jdk_92_method_2_code 1 none #[(.ref o0)] h0 ({ frames := 0, cells := 0, slots := 0, locals := 0 } : Room) (Q12_0 Z  o0 o1 p1 p0 h0 n0) := by
  obtain ⟨S_BitSet__assertionsDisabled, -⟩ := id S
  refine own_body (plainFor_of_name pn_3) (L0 := #[va o0]) (fun _ => by first | rfl | (simp [entryFrame, mkF, argsToLocals, Value.category]; done)) ?_
  intro p e s m below meth c s₁ hrt hlk hx hby hml hZ hown0 hnm X0 e0
  have hown : s.vm.findClass sC1 = some m.cls := hown0
  have N0 := Fr.nil n0
  have K0 : Keep h0 h0 [] := Keep.refl _ _
  obtain ⟨T1, X1, e1, st1⟩ := getS2 X0 hx hZ hown (host := "") (Or.inl (ww hw 94 rfl)) Via.refl e0 (S_BitSet__assertionsDisabled.ext O0.2) (g := (mkF m 0 #[va o0] [])) rfl (hb hby d12_0)
  obtain ⟨T2, X2, e2, st2⟩ := getS2 X1 hx hZ hown (host := "") (Or.inl (ww hw 94 rfl)) Via.refl e1 (S_BitSet__assertionsDisabled.ext O0.2) (g := (mkF m 37 #[va o0] [])) rfl (hb hby d12_37)
  obtain ⟨T3, X3, e3, st3⟩ := getS2 X2 hx hZ hown (host := "") (Or.inl (ww hw 94 rfl)) Via.refl e2 (S_BitSet__assertionsDisabled.ext O0.2) (g := (mkF m 70 #[va o0] [])) rfl (hb hby d12_70)
  obtain ⟨fs, hr, hrun, hended, hW, hsame⟩ := X3.leave (v := none) (fun _ => rfl) hlk
  refine ⟨_, _, ?_, hrun, hended, _, _, rfl, ?_, ⟨_, rfl⟩, hW, hsame.mono (by decide) (by decide)⟩
  · show Steps p.tables e below (s₁.setTop (mkF m 0 #[va o0] [])) _
    refine st1 _ ?_
    refine XS.ifYes X1.here hx rfl (pc0 := 3) (pc' := 37) rfl (hb hby d12_3) rfl ((if0 _ _).trans (feq (by decide : ¬ ((1 : Int32) = (0 : Int32)))).2) (by decide) (by decide) ?_
    refine st2 _ ?_
    refine XS.ifYes X2.here hx rfl (pc0 := 40) (pc' := 70) rfl (hb hby d12_40) rfl ((if0 _ _).trans (feq (by decide : ¬ ((1 : Int32) = (0 : Int32)))).2) (by decide) (by decide) ?_
    refine st3 _ ?_
    refine XS.ifYes X3.here hx rfl (pc0 := 73) (pc' := 110) rfl (hb hby d12_73) rfl ((if0 _ _).trans (feq (by decide : ¬ ((1 : Int32) = (0 : Int32)))).2) (by decide) (by decide) ?_
    exact X3.returnOut hx hrt (hb hby d12_110) hr
  · show Q12_0 Z  o0 o1 p1 p0 h0 n0 none T3.heap _
    exact (⟨rfl, N0, e3⟩)
theorem pd_7 : parseMethodDescriptor "()V" = some ⟨[], none⟩ := by decide +kernel
theorem d11_35 : decode jdk_92_method_26_code 35 = .ok (.iload_n 1, 1) := by decide +kernel
theorem d11_36 : decode jdk_92_method_26_code 36 = .ok (.invokestatic 52, 3) := by decide +kernel
theorem d11_39 : decode jdk_92_method_26_code 39 = .ok (.istore_n 2, 1) := by decide +kernel
theorem d11_40 : decode jdk_92_method_26_code 40 = .ok (.iload_n 2, 1) := by decide +kernel
theorem d11_41 : decode jdk_92_method_26_code 41 = .ok (.aload_n 0, 1) := by decide +kernel
theorem d11_42 : decode jdk_92_method_26_code 42 = .ok (.getfield 7, 3) := by decide +kernel
theorem d11_45 : decode jdk_92_method_26_code 45 = .ok (.if_icmp .ge 22, 3) := by decide +kernel
theorem d11_48 : decode jdk_92_method_26_code 48 = .ok (.aload_n 0, 1) := by decide +kernel
theorem d11_49 : decode jdk_92_method_26_code 49 = .ok (.getfield 11, 3) := by decide +kernel
theorem d11_52 : decode jdk_92_method_26_code 52 = .ok (.iload_n 2, 1) := by decide +kernel
theorem d11_53 : decode jdk_92_method_26_code 53 = .ok (.laload, 1) := by decide +kernel
theorem d11_54 : decode jdk_92_method_26_code 54 = .ok (.lconst 1, 1) := by decide +kernel
theorem d11_55 : decode jdk_92_method_26_code 55 = .ok (.iload_n 1, 1) := by decide +kernel
theorem d11_56 : decode jdk_92_method_26_code 56 = .ok (.lshl, 1) := by decide +kernel
theorem d11_57 : decode jdk_92_method_26_code 57 = .ok (.land, 1) := by decide +kernel
theorem d11_58 : decode jdk_92_method_26_code 58 = .ok (.lconst 0, 1) := by decide +kernel
theorem d11_59 : decode jdk_92_method_26_code 59 = .ok (.lcmp, 1) := by decide +kernel
theorem d11_60 : decode jdk_92_method_26_code 60 = .ok (.ifCond .eq 7, 3) := by decide +kernel
theorem d11_67 : decode jdk_92_method_26_code 67 = .ok (.iconst 0, 1) := by decide +kernel
theorem d11_68 : decode jdk_92_method_26_code 68 = .ok (.ireturn, 1) := by decide +kernel
theorem d11_63 : decode jdk_92_method_26_code 63 = .ok (.iconst 1, 1) := by decide +kernel
theorem d11_64 : decode jdk_92_method_26_code 64 = .ok (.goto 4, 3) := by decide +kernel
def Q11_0 (Z : State) (o0 : Addr) (o1 : Addr) (p1 : Int32) (p0 : Int32) (p2 : Int32) (h0 : Heap) (n0 : Nat) (v : Option Value) (h : Heap) (L : List Loc) : Prop := ∃ (r : Int32), v = (some (.int r)) ∧ Fr n0 L ∧ h = h0
theorem rm11_0 (l : Launch) (Z : State) (a0 : Array Value) (hw : HW Z a0) (ws : List Jvm.Cond) (o0 : Addr) (o1 : Addr) (p1 : Int32) (p0 : Int32) (p2 : Int32) (h0 : Heap) (n0 : Nat) (O0 : Old Z n0 h0) (S : SF Z ) (E_o0 : Exa Z h0 o0 sC1) (F_words_o0 : Fld Z h0 o0 sC1 "words" "[J" (.ref o1)) (F_wordsInUse_o0 : Fld Z h0 o0 sC1 "wordsInUse" "I" (.int p1)) (V_o1 : LA Z h0 o1 p0) (hU : RU p1 p0) (hk : 0 ≤ (p2).toInt) :
    Pay l Z My11 ws jdk_92_method_26_code 3 (some .boolean) #[(.ref o0), (.int p2)] h0 ({ frames := 1, cells := 0, slots := 0, locals := 12 } : Room) (Q11_0 Z  o0 o1 p1 p0 p2 h0 n0) := by
  refine own_body (plainFor_of_name pn_3) (L0 := #[va o0, vi p2, uu]) (fun _ => by first | rfl | (simp [entryFrame, mkF, argsToLocals, Value.category]; done)) ?_
  intro p e s m below meth c s₁ hrt hlk hx hby hml hZ hown0 hnm X0 e0
  have hown : s.vm.findClass sC1 = some m.cls := hown0
  have N0 := Fr.nil n0
  have K0 : Keep h0 h0 [] := Keep.refl _ _
  have hc1 : ¬ (p2 < (0 : Int32)) := (own_nlt0 hk)
  obtain ⟨cq2, qa2, qb2⟩ := E_o0.cell
  obtain ⟨_, _, ⟨T2, L2, k2, n2⟩, -, X2, ⟨Lc2, hQ2, l2, y2, z2⟩, st2⟩ := X0.privateBack hx (y := My12) hown (mvT hZ (ww hw 89 rfl)) (mvT hZ (ww hw 90 rfl)) (own_selp (by decide) (mvT hZ (ww hw 54 rfl)) (mvP hZ (ww hw 91 rfl)) (mvT hZ (ww hw 90 rfl))) (Cond.privateMethod_at (mvP hZ (ww hw 91 rfl) (args := #[]))) (mvT hZ (ww hw 93 rfl)) (by decide) (backOf (W := 0) (rm12_0 l Z a0 hw []  o0 o1 p1 p0 h0 n0 O0 S) hZ (ww hw 93 rfl) (ww hw 55 rfl) (by decide) (by decide)) (g := (mkF m 32 #[va o0, vi p2, uu] [(.ref o0)])) rfl (by rw [hml]; rfl) (Steps.refl _) (a := o0) (by rw [e0]; exact qa2) qb2 (argsL := []) (rest := []) (lenOf pd_7 rfl) rfl (by show 2 * 0 + _ ≤ _; exact Nat.le_of_eq rfl) (hb hby d11_32) (fun _ _ => ⟨rfl, e0, (by decide : 0 + 0 ≤ _), (by decide : 0 + 0 ≤ _)⟩)
  dsimp only [Pt.U, Pt.locs, Pt.cells, Pt.slots] at X2 l2 y2 z2 st2 hQ2
  subst l2 y2 z2
  obtain ⟨rfl, Nq2, e2⟩ := hQ2
  have N2 := Fr.app N0 Nq2
  obtain ⟨_, _, ⟨T3, L3, k3, n3⟩, -, X3, ⟨Lc3, hQ3, l3, y3, z3⟩, st3⟩ := Jvm.LawKit.callS X2 hx (y := My10) hown (mvT hZ (ww hw 69 rfl)) (mvT hZ (ww hw 70 rfl)) (mvT hZ (ww hw 55 rfl)) (mvT hZ (ww hw 71 rfl)) (by decide) (backOf (W := 0) (rm10_0 l Z a0 hw []  p2 h0 n0 O0 S) hZ (ww hw 71 rfl) (ww hw 55 rfl) (by decide) (by decide)) (g := (mkF m 36 #[va o0, vi p2, uu] [(.int p2)])) rfl (by rw [hml]; rfl) (argsL := [(.int p2)]) (rest := []) (lenOf pd_4 rfl) rfl (by show 2 * 0 + _ ≤ _; exact Nat.le_of_eq rfl) (hb hby d11_36) (fun _ _ => ⟨rfl, e2, (by decide : 0 + 0 ≤ _), (by decide : 0 + 0 ≤ _)⟩)
  dsimp only [Pt.U, Pt.locs, Pt.cells, Pt.slots] at X3 l3 y3 z3 st3 hQ3
  subst l3 y3 z3
  obtain ⟨rfl, Nq3, e3⟩ := hQ3
  have N3 := Fr.app N2 Nq3
  obtain ⟨T4, X4, e4, st4⟩ := getF X3 hx hZ hown (host := "") (Or.inl (ww hw 60 rfl)) Via.refl e3 F_wordsInUse_o0 (g := (mkF m 42 #[va o0, vi p2, vi (p2 >>> ((6 : Int32) &&& 31))] [(.ref o0), (.int (p2 >>> ((6 : Int32) &&& 31)))])) rfl rfl (hb hby d11_42)
  have pre_6 : ∀ t, Steps p.tables e below (T4.setTop (mkF m 45 #[va o0, vi p2, vi (p2 >>> ((6 : Int32) &&& 31))] [(.int p1), (.int (p2 >>> ((6 : Int32) &&& 31)))])) t → Steps p.tables e below (s₁.setTop (mkF m 0 #[va o0, vi p2, uu] [])) t := fun t k => (by
    show Steps p.tables e below (s₁.setTop (mkF m 0 #[va o0, vi p2, uu] [])) _
    refine XS.iloadN X0.here hx rfl (hb hby d11_0) rfl ?_
    refine XS.ifYes X0.here hx rfl (pc0 := 1) (pc' := 31) rfl (hb hby d11_1) rfl ((if0 _ _).trans (flt hc1).2.1) (by decide) (by decide) ?_
    refine XS.aloadN X0.here hx rfl (hb hby d11_31) rfl rfl ?_
    refine st2.trans ?_
    refine XS.iloadN X2.here hx rfl (hb hby d11_35) rfl ?_
    refine st3 _ ?_
    refine XS.istoreN X3.here hx rfl (hb hby d11_39) rfl (l' := #[va o0, vi p2, vi (p2 >>> ((6 : Int32) &&& 31))]) rfl ?_
    refine XS.iloadN X3.here hx rfl (hb hby d11_40) rfl ?_
    show Steps p.tables e below (T3.setTop (mkF m 41 #[va o0, vi p2, vi (p2 >>> ((6 : Int32) &&& 31))] [(.int (p2 >>> ((6 : Int32) &&& 31)))])) _
    refine XS.aloadN X3.here hx rfl (hb hby d11_41) rfl rfl ?_
    refine st4 _ ?_
    exact k)
  by_cases hc5 : (p2 >>> ((6 : Int32) &&& 31)) < p1
  · obtain ⟨T7, X7, e7, st7⟩ := getF X4 hx hZ hown (host := "") (Or.inl (ww hw 73 rfl)) Via.refl e4 F_words_o0 (g := (mkF m 49 #[va o0, vi p2, vi (p2 >>> ((6 : Int32) &&& 31))] [(.ref o0)])) rfl rfl (hb hby d11_49)
    obtain ⟨x8, st8⟩ := own_laload X7 hx hZ e7 V_o1 (own_gi hk hc5 hU) (g := (mkF m 53 #[va o0, vi p2, vi (p2 >>> ((6 : Int32) &&& 31))] [(.int (p2 >>> ((6 : Int32) &&& 31))), (.ref o1)])) rfl rfl (hb hby d11_53)
    have pre_10 : ∀ t, Steps p.tables e below (T7.setTop (mkF m 60 #[va o0, vi p2, vi (p2 >>> ((6 : Int32) &&& 31))] [(.int (lcmpW (x8 &&& ((1 : Int64) <<< (p2 &&& 0x3f).toInt64)) (0 : Int64)))])) t → Steps p.tables e below (s₁.setTop (mkF m 0 #[va o0, vi p2, uu] [])) t := fun t k => pre_6 t (by
      show Steps p.tables e below (T4.setTop (mkF m 45 #[va o0, vi p2, vi (p2 >>> ((6 : Int32) &&& 31))] [(.int p1), (.int (p2 >>> ((6 : Int32) &&& 31)))])) _
      refine XS.icmpNo X4.here hx rfl (hb hby d11_45) rfl (tlt hc5).2.1 ?_
      refine XS.aloadN X4.here hx rfl (hb hby d11_48) rfl rfl ?_
      refine st7 _ ?_
      refine XS.iloadN X7.here hx rfl (hb hby d11_52) rfl ?_
      refine st8 _ ?_
      refine XS.lconst X7.here hx rfl (hb hby d11_54) ?_
      refine XS.iloadN X7.here hx rfl (hb hby d11_55) rfl ?_
      refine XS.lshl X7.here hx rfl (hb hby d11_56) rfl ?_
      show Steps p.tables e below (T7.setTop (mkF m 57 #[va o0, vi p2, vi (p2 >>> ((6 : Int32) &&& 31))] [(.long ((1 : Int64) <<< (p2 &&& 0x3f).toInt64)), (.long x8)])) _
      refine XS.land X7.here hx rfl (hb hby d11_57) rfl ?_
      refine XS.lconst X7.here hx rfl (hb hby d11_58) ?_
      refine XS.lcmp X7.here hx rfl (hb hby d11_59) rfl ?_
      exact k)
    by_cases hc9 : (x8 &&& ((1 : Int64) <<< (p2 &&& 0x3f).toInt64)) = (0 : Int64)
    · obtain ⟨fs, hr, hrun, hended, hW, hsame⟩ := X7.leave (v := (some (.int 0))) (fun h => by rw [hrt] at h; cases h) hlk
      refine ⟨_, _, pre_10 _ ?_, hrun, hended, _, _, rfl, ?_, ⟨_, rfl⟩, hW, hsame.mono (by decide) (by decide)⟩
      · show Steps p.tables e below (T7.setTop (mkF m 60 #[va o0, vi p2, vi (p2 >>> ((6 : Int32) &&& 31))] [(.int (lcmpW (x8 &&& ((1 : Int64) <<< (p2 &&& 0x3f).toInt64)) (0 : Int64)))])) _
        refine XS.ifYes X7.here hx rfl (pc0 := 60) (pc' := 67) rfl (hb hby d11_60) rfl (own_lc_eqT hc9).1 (by decide) (by decide) ?_
        refine XS.iconst X7.here hx rfl (hb hby d11_67) ?_
        exact retN X7 hx (t := .boolean) hrt (by simp) (hb hby d11_68) hr
      · show Q11_0 Z  o0 o1 p1 p0 p2 h0 n0 (some (.int 0)) T7.heap _
        exact (⟨(0 : Int32), rfl, N3, e7⟩)
    · obtain ⟨fs, hr, hrun, hended, hW, hsame⟩ := X7.leave (v := (some (.int 1))) (fun h => by rw [hrt] at h; cases h) hlk
      refine ⟨_, _, pre_10 _ ?_, hrun, hended, _, _, rfl, ?_, ⟨_, rfl⟩, hW, hsame.mono (by decide) (by decide)⟩
      · show Steps p.tables e below (T7.setTop (mkF m 60 #[va o0, vi p2, vi (p2 >>> ((6 : Int32) &&& 31))] [(.int (lcmpW (x8 &&& ((1 : Int64) <<< (p2 &&& 0x3f).toInt64)) (0 : Int64)))])) _
        refine XS.ifNo X7.here hx rfl (hb hby d11_60) rfl (own_lc_eqF hc9).1 ?_
        refine XS.iconst X7.here hx rfl (hb hby d11_63) ?_
        refine XS.goto X7.here hx rfl (pc0 := 64) (pc' := 68) rfl (hb hby d11_64) (by decide) (by decide) ?_
        exact retN X7 hx (t := .boolean) hrt (by simp) (hb hby d11_68) hr
      · show Q11_0 Z  o0 o1 p1 p0 p2 h0 n0 (some (.int 1)) T7.heap _
        exact (⟨(1 : Int32), rfl, N3, e7⟩)
  · obtain ⟨fs, hr, hrun, hended, hW, hsame⟩ := X4.leave (v := (some (.int 0))) (fun h => by rw [hrt] at h; cases h) hlk
    refine ⟨_, _, pre_6 _ ?_, hrun, hended, _, _, rfl, ?_, ⟨_, rfl⟩, hW, hsame.mono (by decide) (by decide)⟩
    · show Steps p.tables e below (T4.setTop (mkF m 45 #[va o0, vi p2, vi (p2 >>> ((6 : Int32) &&& 31))] [(.int p1), (.int (p2 >>> ((6 : Int32) &&& 31)))])) _
      refine XS.icmpYes X4.here hx rfl (pc0 := 45) (pc' := 67) rfl (hb hby d11_45) rfl (flt hc5).2.1 (by decide) (by decide) ?_
      refine XS.iconst X4.here hx rfl (hb hby d11_67) ?_
      exact retN X4 hx (t := .boolean) hrt (by simp) (hb hby d11_68) hr
    · show Q11_0 Z  o0 o1 p1 p0 p2 h0 n0 (some (.int 0)) T4.heap _
      exact (⟨(0 : Int32), rfl, N3, e4⟩)
theorem pd_8 : parseMethodDescriptor "(I)Z" = some ⟨[.int], some .boolean⟩ := by decide +kernel
theorem d6_101 : decode prog_47_method_2_code 101 = .ok (.ifCond .ne 23, 3) := by decide +kernel
theorem d6_104 : decode prog_47_method_2_code 104 = .ok (.aload 5, 2) := by decide +kernel
theorem d6_106 : decode prog_47_method_2_code 106 = .ok (.getfield 50, 3) := by decide +kernel
theorem d6_109 : decode prog_47_method_2_code 109 = .ok (.iload 6, 2) := by decide +kernel
theorem d6_111 : decode prog_47_method_2_code 111 = .ok (.invokevirtual 60, 3) := by decide +kernel
theorem d13_0 : decode jdk_92_method_19_code 0 = .ok (.iload_n 1, 1) := by decide +kernel
theorem d13_1 : decode jdk_92_method_19_code 1 = .ok (.ifCond .ge 30, 3) := by decide +kernel
theorem d13_31 : decode jdk_92_method_19_code 31 = .ok (.iload_n 1, 1) := by decide +kernel
theorem d13_32 : decode jdk_92_method_19_code 32 = .ok (.invokestatic 52, 3) := by decide +kernel
theorem d13_35 : decode jdk_92_method_19_code 35 = .ok (.istore_n 2, 1) := by decide +kernel
theorem d13_36 : decode jdk_92_method_19_code 36 = .ok (.aload_n 0, 1) := by decide +kernel
theorem d13_37 : decode jdk_92_method_19_code 37 = .ok (.iload_n 2, 1) := by decide +kernel
theorem d13_38 : decode jdk_92_method_19_code 38 = .ok (.invokevirtual 155, 3) := by decide +kernel
theorem d14_0 : decode jdk_92_method_15_code 0 = .ok (.iload_n 1, 1) := by decide +kernel
theorem d14_1 : decode jdk_92_method_15_code 1 = .ok (.iconst 1, 1) := by decide +kernel
theorem d14_2 : decode jdk_92_method_15_code 2 = .ok (.iadd, 1) := by decide +kernel
theorem d14_3 : decode jdk_92_method_15_code 3 = .ok (.istore_n 2, 1) := by decide +kernel
theorem d14_4 : decode jdk_92_method_15_code 4 = .ok (.aload_n 0, 1) := by decide +kernel
theorem d14_5 : decode jdk_92_method_15_code 5 = .ok (.getfield 7, 3) := by decide +kernel
theorem d14_8 : decode jdk_92_method_15_code 8 = .ok (.iload_n 2, 1) := by decide +kernel
theorem d14_9 : decode jdk_92_method_15_code 9 = .ok (.if_icmp .ge 13, 3) := by decide +kernel
theorem d14_12 : decode jdk_92_method_15_code 12 = .ok (.aload_n 0, 1) := by decide +kernel
theorem d14_13 : decode jdk_92_method_15_code 13 = .ok (.iload_n 2, 1) := by decide +kernel
theorem d14_14 : decode jdk_92_method_15_code 14 = .ok (.invokevirtual 139, 3) := by decide +kernel
theorem d15_0 : decode jdk_92_method_14_code 0 = .ok (.aload_n 0, 1) := by decide +kernel
theorem d15_1 : decode jdk_92_method_14_code 1 = .ok (.getfield 11, 3) := by decide +kernel
theorem d15_4 : decode jdk_92_method_14_code 4 = .ok (.arraylength, 1) := by decide +kernel
theorem d15_5 : decode jdk_92_method_14_code 5 = .ok (.iload_n 1, 1) := by decide +kernel
theorem d15_6 : decode jdk_92_method_14_code 6 = .ok (.if_icmp .ge 32, 3) := by decide +kernel
theorem d15_38 : decode jdk_92_method_14_code 38 = .ok (.return_, 1) := by decide +kernel
def Q15_0 (Z : State) (o0 : Addr) (o1 : Addr) (p1 : Int32) (p0 : Int32) (p2 : Int32) (h0 : Heap) (n0 : Nat) (v : Option Value) (h : Heap) (L : List Loc) : Prop := v = none ∧ Fr n0 L ∧ h = h0
theorem rm15_0 (l : Launch) (Z : State) (a0 : Array Value) (hw : HW Z a0) (ws : List Jvm.Cond) (o0 : Addr) (o1 : Addr) (p1 : Int32) (p0 : Int32) (p2 : Int32) (h0 : Heap) (n0 : Nat) (O0 : Old Z n0 h0) (S : SF Z ) (F_words_o0 : Fld Z h0 o0 sC1 "words" "[J" (.ref o1)) (V_o1 : LA Z h0 o1 p0) (he : ¬ (p0 < p2)) :
    Pay l Z (⟨sC1, "ensureCapacity", "(I)V"⟩ : MethodName) ws jdk_92_method_14_code 3 none #[(.ref o0), (.int p2)] h0 ({ frames := 0, cells := 0, slots := 0, locals := 0 } : Room) (Q15_0 Z  o0 o1 p1 p0 p2 h0 n0) := by
  refine own_body (plainFor_of_name pn_3) (L0 := #[va o0, vi p2, uu]) (fun _ => by first | rfl | (simp [entryFrame, mkF, argsToLocals, Value.category]; done)) ?_
  intro p e s m below meth c s₁ hrt hlk hx hby hml hZ hown0 hnm X0 e0
  have hown : s.vm.findClass sC1 = some m.cls := hown0
  have N0 := Fr.nil n0
  have K0 : Keep h0 h0 [] := Keep.refl _ _
  obtain ⟨T1, X1, e1, st1⟩ := getF X0 hx hZ hown (host := "") (Or.inl (ww hw 73 rfl)) Via.refl e0 F_words_o0 (g := (mkF m 1 #[va o0, vi p2, uu] [(.ref o0)])) rfl rfl (hb hby d15_1)
  have hc2 : ¬ (p0 < p2) := he
  obtain ⟨fs, hr, hrun, hended, hW, hsame⟩ := X1.leave (v := none) (fun _ => rfl) hlk
  refine ⟨_, _, ?_, hrun, hended, _, _, rfl, ?_, ⟨_, rfl⟩, hW, hsame.mono (by decide) (by decide)⟩
  · show Steps p.tables e below (s₁.setTop (mkF m 0 #[va o0, vi p2, uu] [])) _
    refine XS.aloadN X0.here hx rfl (hb hby d15_0) rfl rfl ?_
    refine st1 _ ?_
    refine own_alenL X1 hx hZ e1 V_o1 (g := (mkF m 4 #[va o0, vi p2, uu] [(.ref o1)])) rfl rfl (hb hby d15_4) _ ?_
    refine XS.iloadN X1.here hx rfl (hb hby d15_5) rfl ?_
    refine XS.icmpYes X1.here hx rfl (pc0 := 6) (pc' := 38) rfl (hb hby d15_6) rfl (flt hc2).2.1 (by decide) (by decide) ?_
    exact X1.returnOut hx hrt (hb hby d15_38) hr
  · show Q15_0 Z  o0 o1 p1 p0 p2 h0 n0 none T1.heap _
    exact (⟨rfl, N0, e1⟩)
theorem d14_17 : decode jdk_92_method_15_code 17 = .ok (.aload_n 0, 1) := by decide +kernel
theorem d14_18 : decode jdk_92_method_15_code 18 = .ok (.iload_n 2, 1) := by decide +kernel
theorem d14_19 : decode jdk_92_method_15_code 19 = .ok (.putfield 7, 3) := by decide +kernel
theorem d14_22 : decode jdk_92_method_15_code 22 = .ok (.return_, 1) := by decide +kernel
def Q14_0 (Z : State) (o0 : Addr) (o1 : Addr) (p1 : Int32) (p0 : Int32) (p2 : Int32) (h0 : Heap) (n0 : Nat) (v : Option Value) (h : Heap) (L : List Loc) : Prop := ∃ (u : Int32), v = none ∧ Fr n0 L ∧ Keep h0 h [o0] ∧ Exa Z h o0 sC1 ∧ Fld Z h o0 sC1 "words" "[J" (.ref o1) ∧ Fld Z h o0 sC1 "wordsInUse" "I" (.int u) ∧ RU u p0
theorem rm14_0 (l : Launch) (Z : State) (a0 : Array Value) (hw : HW Z a0) (ws : List Jvm.Cond) (o0 : Addr) (o1 : Addr) (p1 : Int32) (p0 : Int32) (p2 : Int32) (h0 : Heap) (n0 : Nat) (O0 : Old Z n0 h0) (S : SF Z ) (E_o0 : Exa Z h0 o0 sC1) (F_words_o0 : Fld Z h0 o0 sC1 "words" "[J" (.ref o1)) (F_wordsInUse_o0 : Fld Z h0 o0 sC1 "wordsInUse" "I" (.int p1)) (V_o1 : LA Z h0 o1 p0) (g_o0 : n0 ≤ o0) (hU : RU p1 p0) (hN : NW p0) (hi : 0 ≤ (p2).toInt ∧ (p2).toInt < (p0).toInt) :
    Pay l Z (⟨sC1, "expandTo", "(I)V"⟩ : MethodName) ws jdk_92_method_15_code 3 none #[(.ref o0), (.int p2)] h0 ({ frames := 1, cells := 0, slots := 0, locals := 14 } : Room) (Q14_0 Z  o0 o1 p1 p0 p2 h0 n0) := by
  refine own_body (plainFor_of_name pn_3) (L0 := #[va o0, vi p2, uu]) (fun _ => by first | rfl | (simp [entryFrame, mkF, argsToLocals, Value.category]; done)) ?_
  intro p e s m below meth c s₁ hrt hlk hx hby hml hZ hown0 hnm X0 e0
  have hown : s.vm.findClass sC1 = some m.cls := hown0
  have N0 := Fr.nil n0
  have K0 : Keep h0 h0 [o0] := Keep.refl _ _
  obtain ⟨T1, X1, e1, st1⟩ := getF X0 hx hZ hown (host := "") (Or.inl (ww hw 60 rfl)) Via.refl e0 F_wordsInUse_o0 (g := (mkF m 5 #[va o0, vi p2, vi (p2 + (1 : Int32))] [(.ref o0)])) rfl rfl (hb hby d14_5)
  have pre_3 : ∀ t, Steps p.tables e below (T1.setTop (mkF m 9 #[va o0, vi p2, vi (p2 + (1 : Int32))] [(.int (p2 + (1 : Int32))), (.int p1)])) t → Steps p.tables e below (s₁.setTop (mkF m 0 #[va o0, vi p2, uu] [])) t := fun t k => (by
    show Steps p.tables e below (s₁.setTop (mkF m 0 #[va o0, vi p2, uu] [])) _
    refine XS.iloadN X0.here hx rfl (hb hby d14_0) rfl ?_
    refine XS.iconst X0.here hx rfl (hb hby d14_1) ?_
    refine XS.iadd X0.here hx rfl (hb hby d14_2) rfl ?_
    refine XS.istoreN X0.here hx rfl (hb hby d14_3) rfl (l' := #[va o0, vi p2, vi (p2 + (1 : Int32))]) rfl ?_
    refine XS.aloadN X0.here hx rfl (hb hby d14_4) rfl rfl ?_
    refine st1 _ ?_
    refine XS.iloadN X1.here hx rfl (hb hby d14_8) rfl ?_
    exact k)
  by_cases hc2 : p1 < (p2 + (1 : Int32))
  · obtain ⟨cq4, qa4, qb4⟩ := E_o0.cell
    obtain ⟨_, _, ⟨T4, L4, k4, n4⟩, -, X4, ⟨Lc4, hQ4, l4, y4, z4⟩, st4⟩ := X1.privateBack hx (y := (⟨sC1, "ensureCapacity", "(I)V"⟩ : MethodName)) hown (mvT hZ (ww hw 105 rfl)) (mvT hZ (ww hw 106 rfl)) (own_selp (by decide) (mvT hZ (ww hw 54 rfl)) (mvP hZ (ww hw 107 rfl)) (mvT hZ (ww hw 106 rfl))) (Cond.privateMethod_at (mvP hZ (ww hw 107 rfl) (args := #[]))) (mvT hZ (ww hw 109 rfl)) (by decide) (backOf (W := 0) (rm15_0 l Z a0 hw []  o0 o1 p1 p0 (p2 + (1 : Int32)) h0 n0 O0 S F_words_o0 V_o1 (own_ec hi hN)) hZ (ww hw 109 rfl) (ww hw 55 rfl) (by decide) (by decide)) (g := (mkF m 14 #[va o0, vi p2, vi (p2 + (1 : Int32))] [(.int (p2 + (1 : Int32))), (.ref o0)])) rfl (by rw [hml]; rfl) (Steps.refl _) (a := o0) (by rw [e1]; exact qa4) qb4 (argsL := [(.int (p2 + (1 : Int32)))]) (rest := []) (lenOf pd_5 rfl) rfl (by show 2 * 0 + _ ≤ _; exact Nat.le_of_eq rfl) (hb hby d14_14) (fun _ _ => ⟨rfl, e1, (by decide : 0 + 0 ≤ _), (by decide : 0 + 0 ≤ _)⟩)
    dsimp only [Pt.U, Pt.locs, Pt.cells, Pt.slots] at X4 l4 y4 z4 st4 hQ4
    subst l4 y4 z4
    obtain ⟨rfl, Nq4, e4⟩ := hQ4
    have N4 := Fr.app N0 Nq4
    obtain ⟨T5, h5, X5, e5, W5, st5⟩ := putF X4 hx hZ hown (host := "") (Or.inl (ww hw 60 rfl)) Via.refl e4 F_wordsInUse_o0 E_o0 (Or.inl (ww hw 61 rfl)) (ww hw 54 rfl) (ty := .int) (by decide) rfl rfl (g := (mkF m 19 #[va o0, vi p2, vi (p2 + (1 : Int32))] [(.int (p2 + (1 : Int32))), (.ref o0)])) rfl rfl (hb hby d14_19)
    have Fw5 := F_wordsInUse_o0.same W5
    have O5 := O0.wr W5 g_o0
    have K5 : Keep h0 h5 [o0] := K0.wr W5 (Or.inl (List.mem_of_getElem? (i := 0) rfl))
    have N5 := Fr.snoc X5 N4 g_o0
    obtain ⟨fs, hr, hrun, hended, hW, hsame⟩ := X5.leave (v := none) (fun _ => rfl) hlk
    have fc6 := (E_o0.wr W5)
    have fc7 := (F_words_o0.other W5 (Or.inr (slot_ne (Or.inl (ww hw 74 rfl)) (Or.inl (ww hw 61 rfl)) (by decide) (t := (.array .long)) (t' := .int) (by decide) (by decide))))
    refine ⟨_, _, pre_3 _ ?_, hrun, hended, _, _, rfl, ?_, ⟨_, rfl⟩, hW, hsame.mono (by decide) (by decide)⟩
    · show Steps p.tables e below (T1.setTop (mkF m 9 #[va o0, vi p2, vi (p2 + (1 : Int32))] [(.int (p2 + (1 : Int32))), (.int p1)])) _
      refine XS.icmpNo X1.here hx rfl (hb hby d14_9) rfl (tlt hc2).2.1 ?_
      refine XS.aloadN X1.here hx rfl (hb hby d14_12) rfl rfl ?_
      refine XS.iloadN X1.here hx rfl (hb hby d14_13) rfl ?_
      refine st4.trans ?_
      refine XS.aloadN X4.here hx rfl (hb hby d14_17) rfl rfl ?_
      refine XS.iloadN X4.here hx rfl (hb hby d14_18) rfl ?_
      refine st5 _ ?_
      exact X5.returnOut hx hrt (hb hby d14_22) hr
    · show Q14_0 Z  o0 o1 p1 p0 p2 h0 n0 none T5.heap _
      rw [e5]; exact ⟨(p2 + (1 : Int32)), rfl, N5, K5, fc6, fc7, Fw5, (own_ex hi hN)⟩
  · obtain ⟨fs, hr, hrun, hended, hW, hsame⟩ := X1.leave (v := none) (fun _ => rfl) hlk
    refine ⟨_, _, pre_3 _ ?_, hrun, hended, _, _, rfl, ?_, ⟨_, rfl⟩, hW, hsame.mono (by decide) (by decide)⟩
    · show Steps p.tables e below (T1.setTop (mkF m 9 #[va o0, vi p2, vi (p2 + (1 : Int32))] [(.int (p2 + (1 : Int32))), (.int p1)])) _
      refine XS.icmpYes X1.here hx rfl (pc0 := 9) (pc' := 22) rfl (hb hby d14_9) rfl (flt hc2).2.1 (by decide) (by decide) ?_
      exact X1.returnOut hx hrt (hb hby d14_22) hr
    · show Q14_0 Z  o0 o1 p1 p0 p2 h0 n0 none T1.heap _
      rw [e1]; exact ⟨p1, rfl, N0, (Keep.refl _ _), E_o0, F_words_o0, F_wordsInUse_o0, hU⟩
theorem d13_41 : decode jdk_92_method_19_code 41 = .ok (.aload_n 0, 1) := by decide +kernel
theorem d13_42 : decode jdk_92_method_19_code 42 = .ok (.getfield 11, 3) := by decide +kernel
theorem d13_45 : decode jdk_92_method_19_code 45 = .ok (.iload_n 2, 1) := by decide +kernel
theorem d13_46 : decode jdk_92_method_19_code 46 = .ok (.dup2, 1) := by decide +kernel
theorem d13_47 : decode jdk_92_method_19_code 47 = .ok (.laload, 1) := by decide +kernel
theorem d13_48 : decode jdk_92_method_19_code 48 = .ok (.lconst 1, 1) := by decide +kernel
theorem d13_49 : decode jdk_92_method_19_code 49 = .ok (.iload_n 1, 1) := by decide +kernel
theorem d13_50 : decode jdk_92_method_19_code 50 = .ok (.lshl, 1) := by decide +kernel
theorem d13_51 : decode jdk_92_method_19_code 51 = .ok (.lor, 1) := by decide +kernel
theorem d13_52 : decode jdk_92_method_19_code 52 = .ok (.lastore, 1) := by decide +kernel
theorem d13_53 : decode jdk_92_method_19_code 53 = .ok (.aload_n 0, 1) := by decide +kernel
theorem d13_54 : decode jdk_92_method_19_code 54 = .ok (.invokevirtual 56, 3) := by decide +kernel
theorem d13_57 : decode jdk_92_method_19_code 57 = .ok (.return_, 1) := by decide +kernel
def Q13_0 (Z : State) (o0 : Addr) (o1 : Addr) (p1 : Int32) (p0 : Int32) (p2 : Int32) (h0 : Heap) (n0 : Nat) (v : Option Value) (h : Heap) (L : List Loc) : Prop := ∃ (u : Int32), v = none ∧ Fr n0 L ∧ Keep h0 h [o0, o1] ∧ Exa Z h o0 sC1 ∧ Fld Z h o0 sC1 "words" "[J" (.ref o1) ∧ Fld Z h o0 sC1 "wordsInUse" "I" (.int u) ∧ LA Z h o1 p0 ∧ RU u p0
theorem rm13_0 (l : Launch) (Z : State) (a0 : Array Value) (hw : HW Z a0) (ws : List Jvm.Cond) (o0 : Addr) (o1 : Addr) (p1 : Int32) (p0 : Int32) (p2 : Int32) (h0 : Heap) (n0 : Nat) (O0 : Old Z n0 h0) (S : SF Z ) (E_o0 : Exa Z h0 o0 sC1) (F_words_o0 : Fld Z h0 o0 sC1 "words" "[J" (.ref o1)) (F_wordsInUse_o0 : Fld Z h0 o0 sC1 "wordsInUse" "I" (.int p1)) (V_o1 : LA Z h0 o1 p0) (ne_o0_o1 : o0 ≠ o1) (g_o0 : n0 ≤ o0) (g_o1 : n0 ≤ o1) (hU : RU p1 p0) (hN : NW p0) (hk : 0 ≤ (p2).toInt ∧ (p2).toInt < 64 * (p0).toInt) :
    Pay l Z My13 ws jdk_92_method_19_code 3 none #[(.ref o0), (.int p2)] h0 ({ frames := 2, cells := 0, slots := 0, locals := 28 } : Room) (Q13_0 Z  o0 o1 p1 p0 p2 h0 n0) := by
  refine own_body (plainFor_of_name pn_3) (L0 := #[va o0, vi p2, uu]) (fun _ => by first | rfl | (simp [entryFrame, mkF, argsToLocals, Value.category]; done)) ?_
  intro p e s m below meth c s₁ hrt hlk hx hby hml hZ hown0 hnm X0 e0
  have hown : s.vm.findClass sC1 = some m.cls := hown0
  have N0 := Fr.nil n0
  have K0 : Keep h0 h0 [o0, o1] := Keep.refl _ _
  have hc1 : ¬ (p2 < (0 : Int32)) := (own_nlt0 hk.1)
  obtain ⟨_, _, ⟨T2, L2, k2, n2⟩, -, X2, ⟨Lc2, hQ2, l2, y2, z2⟩, st2⟩ := Jvm.LawKit.callS X0 hx (y := My10) hown (mvT hZ (ww hw 69 rfl)) (mvT hZ (ww hw 70 rfl)) (mvT hZ (ww hw 55 rfl)) (mvT hZ (ww hw 71 rfl)) (by decide) (backOf (W := 0) (rm10_0 l Z a0 hw []  p2 h0 n0 O0 S) hZ (ww hw 71 rfl) (ww hw 55 rfl) (by decide) (by decide)) (g := (mkF m 32 #[va o0, vi p2, uu] [(.int p2)])) rfl (by rw [hml]; rfl) (argsL := [(.int p2)]) (rest := []) (lenOf pd_4 rfl) rfl (by show 2 * 0 + _ ≤ _; exact Nat.le_of_eq rfl) (hb hby d13_32) (fun _ _ => ⟨rfl, e0, (by decide : 0 + 0 ≤ _), (by decide : 0 + 0 ≤ _)⟩)
  dsimp only [Pt.U, Pt.locs, Pt.cells, Pt.slots] at X2 l2 y2 z2 st2 hQ2
  subst l2 y2 z2
  obtain ⟨rfl, Nq2, e2⟩ := hQ2
  have N2 := Fr.app N0 Nq2
  obtain ⟨cq3, qa3, qb3⟩ := E_o0.cell
  obtain ⟨_, _, ⟨T3, L3, k3, n3⟩, -, X3, ⟨Lc3, hQ3, l3, y3, z3⟩, st3⟩ := X2.privateBack hx (y := (⟨sC1, "expandTo", "(I)V"⟩ : MethodName)) hown (mvT hZ (ww hw 100 rfl)) (mvT hZ (ww hw 101 rfl)) (own_selp (by decide) (mvT hZ (ww hw 54 rfl)) (mvP hZ (ww hw 102 rfl)) (mvT hZ (ww hw 101 rfl))) (Cond.privateMethod_at (mvP hZ (ww hw 102 rfl) (args := #[]))) (mvT hZ (ww hw 104 rfl)) (by decide) (backOf (W := 0) (rm14_0 l Z a0 hw []  o0 o1 p1 p0 (p2 >>> ((6 : Int32) &&& 31)) h0 n0 O0 S E_o0 F_words_o0 F_wordsInUse_o0 V_o1 g_o0 hU hN (own_si hk)) hZ (ww hw 104 rfl) (ww hw 55 rfl) (by decide) (by decide)) (g := (mkF m 38 #[va o0, vi p2, vi (p2 >>> ((6 : Int32) &&& 31))] [(.int (p2 >>> ((6 : Int32) &&& 31))), (.ref o0)])) rfl (by rw [hml]; rfl) (Steps.refl _) (a := o0) (by rw [e2]; exact qa3) qb3 (argsL := [(.int (p2 >>> ((6 : Int32) &&& 31)))]) (rest := []) (lenOf pd_5 rfl) rfl (by show 2 * 0 + _ ≤ _; exact Nat.le_of_eq rfl) (hb hby d13_38) (fun _ _ => ⟨rfl, e2, (by decide : 0 + 0 ≤ _), (by decide : 0 + 0 ≤ _)⟩)
  dsimp only [Pt.U, Pt.locs, Pt.cells, Pt.slots] at X3 l3 y3 z3 st3 hQ3
  subst l3 y3 z3
  obtain ⟨u_3, rfl, Nq3, Kc3, P0_3, P1_3, P2_3, np0_3⟩ := hQ3
  have N3 := Fr.app N2 Nq3
  have O3 := O0.keep Kc3 (allS g_o0 all0)
  have K3 : Keep h0 T3.heap [o0, o1] := K0.trans Kc3 (allS (Or.inl (List.mem_of_getElem? (i := 0) rfl)) all0)
  obtain ⟨T4, X4, e4, st4⟩ := getF X3 hx hZ hown (host := "") (Or.inl (ww hw 73 rfl)) Via.refl rfl P1_3 (g := (mkF m 42 #[va o0, vi p2, vi (p2 >>> ((6 : Int32) &&& 31))] [(.ref o0)])) rfl rfl (hb hby d13_42)
  have fc6 := (V_o1.keep Kc3 (ninS (Ne.symm ne_o0_o1) nin0))
  obtain ⟨x5, st5⟩ := own_laload X4 hx hZ e4 fc6 (own_sib hk) (g := (mkF m 47 #[va o0, vi p2, vi (p2 >>> ((6 : Int32) &&& 31))] [(.int (p2 >>> ((6 : Int32) &&& 31))), (.ref o1), (.int (p2 >>> ((6 : Int32) &&& 31))), (.ref o1)])) rfl rfl (hb hby d13_47)
  obtain ⟨T7, h7, X7, e7, W7, V7, st7⟩ := own_lastore X4 hx hZ e4 fc6 (own_sib hk) (g := (mkF m 52 #[va o0, vi p2, vi (p2 >>> ((6 : Int32) &&& 31))] [(.long (x5 ||| ((1 : Int64) <<< (p2 &&& 0x3f).toInt64))), (.int (p2 >>> ((6 : Int32) &&& 31))), (.ref o1)])) rfl rfl (hb hby d13_52)
  have O7 := O3.wr W7 g_o1
  have K7 : Keep h0 h7 [o0, o1] := K3.wr W7 (Or.inl (List.mem_of_getElem? (i := 1) rfl))
  have N7 := Fr.snoc X7 N3 g_o1
  have fc9 := (P0_3.wr W7)
  obtain ⟨cq8, qa8, qb8⟩ := fc9.cell
  obtain ⟨_, _, ⟨T8, L8, k8, n8⟩, -, X8, ⟨Lc8, hQ8, l8, y8, z8⟩, st8⟩ := X7.privateBack hx (y := My12) hown (mvT hZ (ww hw 89 rfl)) (mvT hZ (ww hw 90 rfl)) (own_selp (by decide) (mvT hZ (ww hw 54 rfl)) (mvP hZ (ww hw 91 rfl)) (mvT hZ (ww hw 90 rfl))) (Cond.privateMethod_at (mvP hZ (ww hw 91 rfl) (args := #[]))) (mvT hZ (ww hw 93 rfl)) (by decide) (backOf (W := 0) (rm12_0 l Z a0 hw []  o0 o1 u_3 p0 h7 n0 O7 S) hZ (ww hw 93 rfl) (ww hw 55 rfl) (by decide) (by decide)) (g := (mkF m 54 #[va o0, vi p2, vi (p2 >>> ((6 : Int32) &&& 31))] [(.ref o0)])) rfl (by rw [hml]; rfl) (Steps.refl _) (a := o0) (by rw [e7]; exact qa8) qb8 (argsL := []) (rest := []) (lenOf pd_7 rfl) rfl (by show 2 * 0 + _ ≤ _; exact Nat.le_of_eq rfl) (hb hby d13_54) (fun _ _ => ⟨rfl, e7, (by decide : 0 + 0 ≤ _), (by decide : 0 + 0 ≤ _)⟩)
  dsimp only [Pt.U, Pt.locs, Pt.cells, Pt.slots] at X8 l8 y8 z8 st8 hQ8
  subst l8 y8 z8
  obtain ⟨rfl, Nq8, e8⟩ := hQ8
  have N8 := Fr.app N7 Nq8
  obtain ⟨fs, hr, hrun, hended, hW, hsame⟩ := X8.leave (v := none) (fun _ => rfl) hlk
  have fc10 := (P1_3.other W7 (Or.inl ne_o0_o1))
  have fc11 := (P2_3.other W7 (Or.inl ne_o0_o1))
  refine ⟨_, _, ?_, hrun, hended, _, _, rfl, ?_, ⟨_, rfl⟩, hW, hsame.mono (by decide) (by decide)⟩
  · show Steps p.tables e below (s₁.setTop (mkF m 0 #[va o0, vi p2, uu] [])) _
    refine XS.iloadN X0.here hx rfl (hb hby d13_0) rfl ?_
    refine XS.ifYes X0.here hx rfl (pc0 := 1) (pc' := 31) rfl (hb hby d13_1) rfl ((if0 _ _).trans (flt hc1).2.1) (by decide) (by decide) ?_
    refine XS.iloadN X0.here hx rfl (hb hby d13_31) rfl ?_
    refine st2 _ ?_
    refine XS.istoreN X2.here hx rfl (hb hby d13_35) rfl (l' := #[va o0, vi p2, vi (p2 >>> ((6 : Int32) &&& 31))]) rfl ?_
    refine XS.aloadN X2.here hx rfl (hb hby d13_36) rfl rfl ?_
    refine XS.iloadN X2.here hx rfl (hb hby d13_37) rfl ?_
    refine st3.trans ?_
    show Steps p.tables e below (T3.setTop (mkF m 41 #[va o0, vi p2, vi (p2 >>> ((6 : Int32) &&& 31))] [])) _
    refine XS.aloadN X3.here hx rfl (hb hby d13_41) rfl rfl ?_
    refine st4 _ ?_
    refine XS.iloadN X4.here hx rfl (hb hby d13_45) rfl ?_
    refine Jvm.Free.XT.dup2 X4.here hx rfl (hb hby d13_46) rfl rfl rfl ?_
    refine st5 _ ?_
    refine XS.lconst X4.here hx rfl (hb hby d13_48) ?_
    refine XS.iloadN X4.here hx rfl (hb hby d13_49) rfl ?_
    refine XS.lshl X4.here hx rfl (hb hby d13_50) rfl ?_
    show Steps p.tables e below (T4.setTop (mkF m 51 #[va o0, vi p2, vi (p2 >>> ((6 : Int32) &&& 31))] [(.long ((1 : Int64) <<< (p2 &&& 0x3f).toInt64)), (.long x5), (.int (p2 >>> ((6 : Int32) &&& 31))), (.ref o1)])) _
    refine XS.lor X4.here hx rfl (hb hby d13_51) rfl ?_
    refine st7 _ ?_
    refine XS.aloadN X7.here hx rfl (hb hby d13_53) rfl rfl ?_
    refine st8.trans ?_
    exact X8.returnOut hx hrt (hb hby d13_57) hr
  · show Q13_0 Z  o0 o1 p1 p0 p2 h0 n0 none T8.heap _
    rw [e8]; exact ⟨u_3, rfl, N8, K7, fc9, fc10, fc11, V7, np0_3⟩
theorem d6_114 : decode prog_47_method_2_code 114 = .ok (.aload_n 0, 1) := by decide +kernel
theorem d6_115 : decode prog_47_method_2_code 115 = .ok (.dup, 1) := by decide +kernel
theorem d6_116 : decode prog_47_method_2_code 116 = .ok (.getfield 64, 3) := by decide +kernel
theorem d6_119 : decode prog_47_method_2_code 119 = .ok (.lconst 1, 1) := by decide +kernel
theorem d6_120 : decode prog_47_method_2_code 120 = .ok (.ladd, 1) := by decide +kernel
theorem d6_121 : decode prog_47_method_2_code 121 = .ok (.putfield 64, 3) := by decide +kernel
theorem d6_124 : decode prog_47_method_2_code 124 = .ok (.return_, 1) := by decide +kernel
def Q6_0 (Z : State) (o0 : Addr) (o1 : Addr) (o2 : Addr) (q0 : Int64) (p1 : Int32) (p2 : Int32) (p3 : Int32) (q4 : Int64) (h0 : Heap) (n0 : Nat) (v : Option Value) (h : Heap) (L : List Loc) : Prop := ∃ (b4 : Addr), ∃ (b3_9 : Addr), ∃ (b9_9 : Addr), ∃ (b3_10_10_9 : Addr), ∃ (hv : Int64), ∃ (u : Int32), v = none ∧ Fr n0 L ∧ Keep h0 h [o0, o1] ∧ Exa Z h o0 sC0 ∧ Fld Z h o0 sC0 "held" "J" (.long hv) ∧ Fld Z h o0 sC0 "length" "I" (.int p1) ∧ Fld Z h o0 sC0 "pageSlots" "I" (.int p2) ∧ Fld Z h o0 sC0 "pages" "[Lcom/example/tributary/tributary/model/NodeHashes$Page;" (.ref o1) ∧ Fld Z h o0 sC0 "pagesMade" "I" (.int 1) ∧ PA Z h o1 p3 [(((q4 / (p2.toInt64)).toInt32), (.ref b4))] ∧ Exa Z h b4 sC2 ∧ Fld Z h b4 sC2 "hashes" "[B" (.ref b3_9) ∧ Fld Z h b4 sC2 "held" "Ljava/util/BitSet;" (.ref b9_9) ∧ BA Z h b3_9 (p2 * p1) ∧ Exa Z h b9_9 sC1 ∧ Fld Z h b9_9 sC1 "words" "[J" (.ref b3_10_10_9) ∧ Fld Z h b9_9 sC1 "wordsInUse" "I" (.int u) ∧ LA Z h b3_10_10_9 (((p2 - (1 : Int32)) >>> ((6 : Int32) &&& 31)) + (1 : Int32)) ∧ h0.size ≤ b4 ∧ h0.size ≤ b3_9 ∧ h0.size ≤ b9_9 ∧ h0.size ≤ b3_10_10_9 ∧ b4 ≠ b3_9 ∧ b4 ≠ b9_9 ∧ b4 ≠ b3_10_10_9 ∧ b3_9 ≠ b9_9 ∧ b3_9 ≠ b3_10_10_9 ∧ b9_9 ≠ b3_10_10_9 ∧ RU u (((p2 - (1 : Int32)) >>> ((6 : Int32) &&& 31)) + (1 : Int32))
theorem rm6_0 (l : Launch) (Z : State) (a0 : Array Value) (hw : HW Z a0) (ws : List Jvm.Cond) (o0 : Addr) (o1 : Addr) (o2 : Addr) (q0 : Int64) (p1 : Int32) (p2 : Int32) (p3 : Int32) (q4 : Int64) (h0 : Heap) (n0 : Nat) (O0 : Old Z n0 h0) (S : SF Z ) (E_o0 : Exa Z h0 o0 sC0) (F_held_o0 : Fld Z h0 o0 sC0 "held" "J" (.long q0)) (F_length_o0 : Fld Z h0 o0 sC0 "length" "I" (.int p1)) (F_pageSlots_o0 : Fld Z h0 o0 sC0 "pageSlots" "I" (.int p2)) (F_pages_o0 : Fld Z h0 o0 sC0 "pages" "[Lcom/example/tributary/tributary/model/NodeHashes$Page;" (.ref o1)) (F_pagesMade_o0 : Fld Z h0 o0 sC0 "pagesMade" "I" (.int 0)) (V_o1 : PA Z h0 o1 p3 []) (V_o2 : BA Z h0 o2 (64 : Int32)) (ne_o0_o1 : o0 ≠ o1) (ne_o0_o2 : o0 ≠ o2) (ne_o1_o2 : o1 ≠ o2) (g_o0 : n0 ≤ o0) (g_o1 : n0 ≤ o1) (hP : NP p1 p2) (hs : SL q4 p2 p3) :
    Pay l Z My6 ws prog_47_method_2_code 7 none #[(.ref o0), (.long q4), (.ref o2)] h0 ({ frames := 4, cells := 4, slots := 16137, locals := 56 } : Room) (Q6_0 Z  o0 o1 o2 q0 p1 p2 p3 q4 h0 n0) := by
  refine own_body (plainFor_of_name pn_1) (L0 := #[va o0, vl q4, ss, va o2, uu, uu, uu]) (fun _ => by first | rfl | (simp [entryFrame, mkF, argsToLocals, Value.category]; done)) ?_
  intro p e s m below meth c s₁ hrt hlk hx hby hml hZ hown0 hnm X0 e0
  have hown : s.vm.findClass sC0 = some m.cls := hown0
  have N0 := Fr.nil n0
  have K0 : Keep h0 h0 [o0, o1] := Keep.refl _ _
  obtain ⟨T1, X1, e1, st1⟩ := getF X0 hx hZ hown (host := "") (Or.inl (ww hw 22 rfl)) Via.refl e0 F_pageSlots_o0 (g := (mkF m 2 #[va o0, vl q4, ss, va o2, uu, uu, uu] [(.ref o0), (.long q4)])) rfl rfl (hb hby d6_2)
  have hc2 : ¬ ((p2.toInt64) = (0 : Int64)) := (own_p0 hP)
  obtain ⟨T3, X3, e3, st3⟩ := getF X1 hx hZ hown (host := "") (Or.inl (ww hw 29 rfl)) Via.refl e1 F_pages_o0 (g := (mkF m 11 #[va o0, vl q4, ss, va o2, vi ((q4 / (p2.toInt64)).toInt32), uu, uu] [(.ref o0)])) rfl rfl (hb hby d6_11)
  obtain ⟨T4, h4, X4, e4, E4, A4, D4, -, st4⟩ := newO X3 hx hZ hown (ww hw 27 rfl) (ww hw 45 rfl) (ww hw 46 rfl) e3 (g := (mkF m 24 #[va o0, vl q4, ss, va o2, vi ((q4 / (p2.toInt64)).toInt32), .val .null, uu] [])) rfl (hb hby d6_24) (by decide) (by decide)
  obtain ⟨b4, qs4⟩ : ∃ z, z = h0.size := ⟨_, rfl⟩
  rw [← qs4] at A4 D4 st4
  have ne_o0_b4 : o0 ≠ b4 := Nat.ne_of_lt (Nat.lt_of_lt_of_le E_o0.lt (Nat.le_of_eq qs4.symm))
  have ne_o1_b4 : o1 ≠ b4 := Nat.ne_of_lt (Nat.lt_of_lt_of_le V_o1.lt (Nat.le_of_eq qs4.symm))
  have ne_o2_b4 : o2 ≠ b4 := Nat.ne_of_lt (Nat.lt_of_lt_of_le V_o2.lt (Nat.le_of_eq qs4.symm))
  have g_b4 : n0 ≤ b4 := Nat.le_trans (own_old O0) (Nat.le_of_eq qs4.symm)
  have sz_b4 : h0.size ≤ b4 := Nat.le_trans K0.1 (Nat.le_of_eq qs4.symm)
  have O4 := O0.ext E4
  have K4 : Keep h0 h4 [o0, o1] := K0.ext E4
  have F_hashes_b4 : Fld Z h4 b4 sC2 "hashes" "[B" .null := D4 (Or.inr (ww hw 52 rfl)) (ty := (.array .byte)) (by decide)
  have F_held_b4 : Fld Z h4 b4 sC2 "held" "Ljava/util/BitSet;" .null := D4 (Or.inr (ww hw 76 rfl)) (ty := (.object sC1)) (by decide)
  have fc5 := (F_length_o0.ext E4)
  obtain ⟨T6, X6, e6, st6⟩ := getF X4 hx hZ hown (host := "") (Or.inl (ww hw 15 rfl)) Via.refl e4 fc5 (g := (mkF m 29 #[va o0, vl q4, ss, va o2, vi ((q4 / (p2.toInt64)).toInt32), .val .null, uu] [(.ref o0), (.ref b4), (.ref b4)])) rfl rfl (hb hby d6_29)
  have fc7 := (F_pageSlots_o0.ext E4)
  obtain ⟨T8, X8, e8, st8⟩ := getF X6 hx hZ hown (host := "") (Or.inl (ww hw 22 rfl)) Via.refl e6 fc7 (g := (mkF m 33 #[va o0, vl q4, ss, va o2, vi ((q4 / (p2.toInt64)).toInt32), .val .null, uu] [(.ref o0), (.int p1), (.ref b4), (.ref b4)])) rfl rfl (hb hby d6_33)
  obtain ⟨_, _, ⟨T9, L9, k9, n9⟩, -, X9, ⟨Lc9, hQ9, l9, y9, z9⟩, st9⟩ := own_specialRef X8 hx hZ (y := (⟨sC2, "<init>", "(II)V"⟩ : MethodName)) rfl hown (ww hw 47 rfl) (mvT hZ (ww hw 48 rfl)) (mvT hZ (ww hw 49 rfl)) (by decide) (backOf (W := 1) (rm7_0 l Z a0 hw []  b4 p1 p2 h4 n0 O4 S A4 F_hashes_b4 F_held_b4 g_b4 (own_pB hP) (own_pn hP) (own_pc hP)) hZ (ww hw 49 rfl) (ww hw 46 rfl) (by decide) (by decide)) (g := (mkF m 36 #[va o0, vl q4, ss, va o2, vi ((q4 / (p2.toInt64)).toInt32), .val .null, uu] [(.int p2), (.int p1), (.ref b4), (.ref b4)])) rfl (by rw [hml]; rfl) (Steps.refl _) (a := b4) (argsL := [(.int p1), (.int p2)]) (rest := [(.ref b4)]) (lenOf pd_6 rfl) rfl (by show 2 * 0 + _ ≤ _; exact Nat.le_of_eq rfl) (hb hby d6_36) (fun _ _ => ⟨rfl, e8, (by decide : 1 + 3 ≤ _), (by decide : 2 + 16135 ≤ _)⟩)
  dsimp only [Pt.U, Pt.locs, Pt.cells, Pt.slots] at X9 l9 y9 z9 st9 hQ9
  subst l9 y9 z9
  have fc10 := (E_o0.ext E4)
  have fc11 := (V_o1.ext E4)
  have fc12 := (V_o2.ext E4)
  obtain ⟨b3_9, b9_9, b3_10_10_9, rfl, Nq9, Kc9, P0_9, P1_9, P2_9, P3_9, P4_9, P5_9, P6_9, P7_9, P8_9, P9_9, P10_9, P11_9, P12_9, P13_9⟩ := hQ9
  have N9 := Fr.app N0 Nq9
  have ne_o0_b3_9 : o0 ≠ b3_9 := Nat.ne_of_lt (Nat.lt_of_lt_of_le fc10.lt P8_9)
  have ne_o1_b3_9 : o1 ≠ b3_9 := Nat.ne_of_lt (Nat.lt_of_lt_of_le fc11.lt P8_9)
  have ne_o2_b3_9 : o2 ≠ b3_9 := Nat.ne_of_lt (Nat.lt_of_lt_of_le fc12.lt P8_9)
  have ne_b4_b3_9 : b4 ≠ b3_9 := Nat.ne_of_lt (Nat.lt_of_lt_of_le A4.lt P8_9)
  have ne_o0_b9_9 : o0 ≠ b9_9 := Nat.ne_of_lt (Nat.lt_of_lt_of_le fc10.lt P9_9)
  have ne_o1_b9_9 : o1 ≠ b9_9 := Nat.ne_of_lt (Nat.lt_of_lt_of_le fc11.lt P9_9)
  have ne_o2_b9_9 : o2 ≠ b9_9 := Nat.ne_of_lt (Nat.lt_of_lt_of_le fc12.lt P9_9)
  have ne_b4_b9_9 : b4 ≠ b9_9 := Nat.ne_of_lt (Nat.lt_of_lt_of_le A4.lt P9_9)
  have ne_o0_b3_10_10_9 : o0 ≠ b3_10_10_9 := Nat.ne_of_lt (Nat.lt_of_lt_of_le fc10.lt P10_9)
  have ne_o1_b3_10_10_9 : o1 ≠ b3_10_10_9 := Nat.ne_of_lt (Nat.lt_of_lt_of_le fc11.lt P10_9)
  have ne_o2_b3_10_10_9 : o2 ≠ b3_10_10_9 := Nat.ne_of_lt (Nat.lt_of_lt_of_le fc12.lt P10_9)
  have ne_b4_b3_10_10_9 : b4 ≠ b3_10_10_9 := Nat.ne_of_lt (Nat.lt_of_lt_of_le A4.lt P10_9)
  have g_b3_9 : n0 ≤ b3_9 := Nat.le_trans (own_old O4) P8_9
  have sz_b3_9 : h0.size ≤ b3_9 := Nat.le_trans K4.1 P8_9
  have g_b9_9 : n0 ≤ b9_9 := Nat.le_trans (own_old O4) P9_9
  have sz_b9_9 : h0.size ≤ b9_9 := Nat.le_trans K4.1 P9_9
  have g_b3_10_10_9 : n0 ≤ b3_10_10_9 := Nat.le_trans (own_old O4) P10_9
  have sz_b3_10_10_9 : h0.size ≤ b3_10_10_9 := Nat.le_trans K4.1 P10_9
  have O9 := O4.keep Kc9 (allS g_b4 all0)
  have K9 : Keep h0 T9.heap [o0, o1] := K4.trans Kc9 (allS (Or.inr sz_b4) all0)
  have fc13 := ((F_pages_o0.ext E4).keep Kc9 (ninS ne_o0_b4 nin0))
  obtain ⟨T14, X14, e14, st14⟩ := getF X9 hx hZ hown (host := "") (Or.inl (ww hw 29 rfl)) Via.refl rfl fc13 (g := (mkF m 42 #[va o0, vl q4, ss, va o2, vi ((q4 / (p2.toInt64)).toInt32), va b4, uu] [(.ref o0)])) rfl rfl (hb hby d6_42)
  have fc15 := (fc11.keep Kc9 (ninS ne_o1_b4 nin0))
  obtain ⟨T16, h16, X16, e16, W16, V16, st16⟩ := own_aastore X14 hx hZ e14 fc15 (own_pj hP hs) P0_9 (g := (mkF m 49 #[va o0, vl q4, ss, va o2, vi ((q4 / (p2.toInt64)).toInt32), va b4, uu] [(.ref b4), (.int ((q4 / (p2.toInt64)).toInt32)), (.ref o1)])) rfl rfl (hb hby d6_49)
  have O16 := O9.wr W16 g_o1
  have K16 : Keep h0 h16 [o0, o1] := K9.wr W16 (Or.inl (List.mem_of_getElem? (i := 1) rfl))
  have N16 := Fr.snoc X16 N9 g_o1
  have fc17 := (((F_pagesMade_o0.ext E4).keep Kc9 (ninS ne_o0_b4 nin0)).other W16 (Or.inl ne_o0_o1))
  obtain ⟨T18, X18, e18, st18⟩ := getF X16 hx hZ hown (host := "") (Or.inl (ww hw 37 rfl)) Via.refl e16 fc17 (g := (mkF m 52 #[va o0, vl q4, ss, va o2, vi ((q4 / (p2.toInt64)).toInt32), va b4, uu] [(.ref o0), (.ref o0)])) rfl rfl (hb hby d6_52)
  have fc19 := ((fc10.keep Kc9).wr W16)
  obtain ⟨T20, h20, X20, e20, W20, st20⟩ := putF X18 hx hZ hown (host := "") (Or.inl (ww hw 37 rfl)) Via.refl e18 fc17 fc19 (Or.inl (ww hw 38 rfl)) (ww hw 7 rfl) (ty := .int) (by decide) rfl rfl (g := (mkF m 57 #[va o0, vl q4, ss, va o2, vi ((q4 / (p2.toInt64)).toInt32), va b4, uu] [(.int 1), (.ref o0)])) rfl rfl (hb hby d6_57)
  have Fw20 := fc17.same W20
  have O20 := O16.wr W20 g_o0
  have K20 : Keep h0 h20 [o0, o1] := K16.wr W20 (Or.inl (List.mem_of_getElem? (i := 0) rfl))
  have N20 := Fr.snoc X20 N16 g_o0
  have fc21 := (((fc7.keep Kc9 (ninS ne_o0_b4 nin0)).other W16 (Or.inl ne_o0_o1)).other W20 (Or.inr (slot_ne (Or.inr (ww hw 23 rfl)) (Or.inl (ww hw 38 rfl)) (by decide) (t := .int) (t' := .int) (by decide) (by decide))))
  obtain ⟨T22, X22, e22, st22⟩ := getF X20 hx hZ hown (host := "") (Or.inl (ww hw 22 rfl)) Via.refl e20 fc21 (g := (mkF m 62 #[va o0, vl q4, ss, va o2, vi ((q4 / (p2.toInt64)).toInt32), va b4, uu] [(.ref o0), (.long q4)])) rfl rfl (hb hby d6_62)
  have fc23 := ((P1_9.other W16 (Or.inl (Ne.symm ne_o1_b4))).other W20 (Or.inl (Ne.symm ne_o0_b4)))
  have st24 := own_getR X22 hx hZ hown (ww hw 78 rfl) e22 fc23 (g := (mkF m 74 #[va o0, vl q4, ss, va o2, vi ((q4 / (p2.toInt64)).toInt32), va b4, vi ((own_lr q4 (p2.toInt64)).toInt32)] [(.ref b4), (.int 0), (.ref o2)])) rfl rfl (hb hby d6_74)
  have fc25 := (((fc5.keep Kc9 (ninS ne_o0_b4 nin0)).other W16 (Or.inl ne_o0_o1)).other W20 (Or.inr (slot_ne (Or.inr (ww hw 16 rfl)) (Or.inl (ww hw 38 rfl)) (by decide) (t := .int) (t' := .int) (by decide) (by decide))))
  obtain ⟨T26, X26, e26, st26⟩ := getF X22 hx hZ hown (host := "") (Or.inl (ww hw 15 rfl)) Via.refl e22 fc25 (g := (mkF m 80 #[va o0, vl q4, ss, va o2, vi ((q4 / (p2.toInt64)).toInt32), va b4, vi ((own_lr q4 (p2.toInt64)).toInt32)] [(.ref o0), (.int ((own_lr q4 (p2.toInt64)).toInt32)), (.ref b3_9), (.int 0), (.ref o2)])) rfl rfl (hb hby d6_80)
  obtain ⟨T27, X27, e27, st27⟩ := getF X26 hx hZ hown (host := "") (Or.inl (ww hw 15 rfl)) Via.refl e26 fc25 (g := (mkF m 85 #[va o0, vl q4, ss, va o2, vi ((q4 / (p2.toInt64)).toInt32), va b4, vi ((own_lr q4 (p2.toInt64)).toInt32)] [(.ref o0), (.int (((own_lr q4 (p2.toInt64)).toInt32) * p1)), (.ref b3_9), (.int 0), (.ref o2)])) rfl rfl (hb hby d6_85)
  have fc29 := (((fc12.keep Kc9 (ninS ne_o2_b4 nin0)).other W16 (Ne.symm ne_o1_o2)).other W20 (Ne.symm ne_o0_o2))
  have fc30 := ((P3_9.other W16 (Ne.symm ne_o1_b3_9)).other W20 (Ne.symm ne_o0_b3_9))
  have cp28 : cpOK (((own_lr q4 (p2.toInt64)).toInt32) * p1) p1 (p2 * p1) := (own_pcp hP hs)
  obtain ⟨T28, h28, L28, X28, e28, N28, Kc28, V28, st28⟩ := own_cpB X27 hx hZ hown (ww hw 79 rfl) (ww hw 82 rfl) (ww hw 80 rfl) (ww hw 81 rfl) e27 fc29 fc30 (sp := (0 : Int32)) (dp := (((own_lr q4 (p2.toInt64)).toInt32) * p1)) (nn := p1) (by decide) cp28.1 cp28.2.1 cp28.2.2.1 cp28.2.2.2 N20 g_b3_9 (g := (mkF m 88 #[va o0, vl q4, ss, va o2, vi ((q4 / (p2.toInt64)).toInt32), va b4, vi ((own_lr q4 (p2.toInt64)).toInt32)] [(.int p1), (.int (((own_lr q4 (p2.toInt64)).toInt32) * p1)), (.ref b3_9), (.int 0), (.ref o2)])) rfl (by rw [hml]; rfl) (rest := []) rfl (hb hby d6_88) (by decide) (W := 0) (by show 2 * 0 + _ ≤ _; exact Nat.le_of_eq rfl) (by decide)
  have O28 := O20.keep Kc28 (allS g_b3_9 all0)
  have K28 : Keep h0 h28 [o0, o1] := K20.trans Kc28 (allS (Or.inr sz_b3_9) all0)
  have fc31 := (((P2_9.other W16 (Or.inl (Ne.symm ne_o1_b4))).other W20 (Or.inl (Ne.symm ne_o0_b4))).keep Kc28 (ninS ne_b4_b3_9 nin0))
  have st32 := own_getR X28 hx hZ hown (ww hw 83 rfl) e28 fc31 (g := (mkF m 93 #[va o0, vl q4, ss, va o2, vi ((q4 / (p2.toInt64)).toInt32), va b4, vi ((own_lr q4 (p2.toInt64)).toInt32)] [(.ref b4)])) rfl rfl (hb hby d6_93)
  have fc33 := (((P4_9.wr W16).wr W20).keep Kc28)
  have fc34 := (((P5_9.other W16 (Or.inl (Ne.symm ne_o1_b9_9))).other W20 (Or.inl (Ne.symm ne_o0_b9_9))).keep Kc28 (ninS (Ne.symm P11_9) nin0))
  have fc35 := (((P6_9.other W16 (Or.inl (Ne.symm ne_o1_b9_9))).other W20 (Or.inl (Ne.symm ne_o0_b9_9))).keep Kc28 (ninS (Ne.symm P11_9) nin0))
  have fc36 := (((P7_9.other W16 (Ne.symm ne_o1_b3_10_10_9)).other W20 (Ne.symm ne_o0_b3_10_10_9)).keep Kc28 (ninS (Ne.symm P12_9) nin0))
  obtain ⟨cq37, kq37, q37a, q37b, q37c⟩ := isOf hZ e28 fc33
  obtain ⟨_, _, ⟨T37, L37, k37, n37⟩, -, X37, ⟨Lc37, hQ37, l37, y37, z37⟩, st37⟩ := X28.virtualBack hx (y := My11) (z := My11) hown (mvT hZ (ww hw 84 rfl)) (mvT hZ (ww hw 85 rfl)) (notFace_of_selects (args := #[]) (mvT hZ (ww hw 87 rfl))) (mvT hZ (ww hw 87 rfl)) (mvT hZ (ww hw 86 rfl)) (by decide) (backOf (W := 0) (rm11_0 l Z a0 hw []  b9_9 b3_10_10_9 (0 : Int32) (((p2 - (1 : Int32)) >>> ((6 : Int32) &&& 31)) + (1 : Int32)) ((own_lr q4 (p2.toInt64)).toInt32) h28 n0 O28 S fc33 fc34 fc35 fc36 (own_ru0 (own_pN hP)) (own_pk hP hs).1) hZ (ww hw 88 rfl) (ww hw 55 rfl) (by decide) (by decide)) q37a q37c (g := (mkF m 98 #[va o0, vl q4, ss, va o2, vi ((q4 / (p2.toInt64)).toInt32), va b4, vi ((own_lr q4 (p2.toInt64)).toInt32)] [(.int ((own_lr q4 (p2.toInt64)).toInt32)), (.ref b9_9)])) rfl (by rw [hml]; rfl) (Steps.refl _) (argsL := [(.int ((own_lr q4 (p2.toInt64)).toInt32))]) (rest := []) (lenOf pd_8 rfl) rfl (by show 2 * 0 + _ ≤ _; exact Nat.le_of_eq rfl) (hb hby d6_98) (fun _ _ => ⟨rfl, e28, (by decide : 4 + 0 ≤ _), (by decide : 16137 + 0 ≤ _)⟩)
  dsimp only [Pt.U, Pt.locs, Pt.cells, Pt.slots] at X37 l37 y37 z37 st37 hQ37
  subst l37 y37 z37
  obtain ⟨r_37, rfl, Nq37, e37⟩ := hQ37
  have N37 := Fr.app N28 Nq37
  have pre_39 : ∀ t, Steps p.tables e below (T37.setTop (mkF m 101 #[va o0, vl q4, ss, va o2, vi ((q4 / (p2.toInt64)).toInt32), va b4, vi ((own_lr q4 (p2.toInt64)).toInt32)] [(.int r_37)])) t → Steps p.tables e below (s₁.setTop (mkF m 0 #[va o0, vl q4, ss, va o2, uu, uu, uu] [])) t := fun t k => (by
    show Steps p.tables e below (s₁.setTop (mkF m 0 #[va o0, vl q4, ss, va o2, uu, uu, uu] [])) _
    refine XS.lloadN X0.here hx rfl (hb hby d6_0) rfl ?_
    refine XS.aloadN X0.here hx rfl (hb hby d6_1) rfl rfl ?_
    refine st1 _ ?_
    refine XS.i2l X1.here hx rfl (hb hby d6_5) rfl ?_
    refine XS.ldiv X1.here hx rfl (hb hby d6_6) rfl hc2 ?_
    refine XS.l2i X1.here hx rfl (hb hby d6_7) rfl ?_
    refine XS.istore X1.here hx rfl (hb hby d6_8) rfl (l' := #[va o0, vl q4, ss, va o2, vi ((q4 / (p2.toInt64)).toInt32), uu, uu]) rfl ?_
    refine XS.aloadN X1.here hx rfl (hb hby d6_10) rfl rfl ?_
    show Steps p.tables e below (T1.setTop (mkF m 11 #[va o0, vl q4, ss, va o2, vi ((q4 / (p2.toInt64)).toInt32), uu, uu] [(.ref o0)])) _
    refine st3 _ ?_
    refine XS.iload X3.here hx rfl (hb hby d6_14) rfl ?_
    refine own_aaload X3 hx hZ e3 V_o1 (own_pj hP hs) (v := .null) rfl (g := (mkF m 16 #[va o0, vl q4, ss, va o2, vi ((q4 / (p2.toInt64)).toInt32), uu, uu] [(.int ((q4 / (p2.toInt64)).toInt32)), (.ref o1)])) rfl rfl (hb hby d6_16) _ ?_
    refine XS.astore X3.here hx rfl (hb hby d6_17) rfl rfl (l' := #[va o0, vl q4, ss, va o2, vi ((q4 / (p2.toInt64)).toInt32), .val .null, uu]) rfl ?_
    refine XS.aload X3.here hx rfl (hb hby d6_19) rfl rfl ?_
    refine XS.ifnonnullNo X3.here hx rfl (hb hby d6_21) rfl ?_
    refine st4 _ ?_
    refine XS.dup X4.here hx rfl (hb hby d6_27) rfl rfl ?_
    show Steps p.tables e below (T4.setTop (mkF m 28 #[va o0, vl q4, ss, va o2, vi ((q4 / (p2.toInt64)).toInt32), .val .null, uu] [(.ref b4), (.ref b4)])) _
    refine XS.aloadN X4.here hx rfl (hb hby d6_28) rfl rfl ?_
    refine st6 _ ?_
    refine XS.aloadN X6.here hx rfl (hb hby d6_32) rfl rfl ?_
    refine st8 _ ?_
    refine st9.trans ?_
    refine XS.astore X9.here hx rfl (hb hby d6_39) rfl rfl (l' := #[va o0, vl q4, ss, va o2, vi ((q4 / (p2.toInt64)).toInt32), va b4, uu]) rfl ?_
    refine XS.aloadN X9.here hx rfl (hb hby d6_41) rfl rfl ?_
    refine st14 _ ?_
    show Steps p.tables e below (T14.setTop (mkF m 45 #[va o0, vl q4, ss, va o2, vi ((q4 / (p2.toInt64)).toInt32), va b4, uu] [(.ref o1)])) _
    refine XS.iload X14.here hx rfl (hb hby d6_45) rfl ?_
    refine XS.aload X14.here hx rfl (hb hby d6_47) rfl rfl ?_
    refine st16 _ ?_
    refine XS.aloadN X16.here hx rfl (hb hby d6_50) rfl rfl ?_
    refine XS.dup X16.here hx rfl (hb hby d6_51) rfl rfl ?_
    refine st18 _ ?_
    refine XS.iconst X18.here hx rfl (hb hby d6_55) ?_
    refine XS.iadd X18.here hx rfl (hb hby d6_56) rfl ?_
    show Steps p.tables e below (T18.setTop (mkF m 57 #[va o0, vl q4, ss, va o2, vi ((q4 / (p2.toInt64)).toInt32), va b4, uu] [(.int ((0 : Int32) + (1 : Int32))), (.ref o0)])) _
    rw [show (((0 : Int32) + (1 : Int32)) : Int32) = (1 : Int32) from by decide]
    refine st20 _ ?_
    refine XS.lloadN X20.here hx rfl (hb hby d6_60) rfl ?_
    refine XS.aloadN X20.here hx rfl (hb hby d6_61) rfl rfl ?_
    refine st22 _ ?_
    refine XS.i2l X22.here hx rfl (hb hby d6_65) rfl ?_
    refine XS.lrem X22.here hx rfl (hb hby d6_66) rfl hc2 ?_
    refine XS.l2i X22.here hx rfl (hb hby d6_67) rfl ?_
    show Steps p.tables e below (T22.setTop (mkF m 68 #[va o0, vl q4, ss, va o2, vi ((q4 / (p2.toInt64)).toInt32), va b4, uu] [(.int ((own_lr q4 (p2.toInt64)).toInt32))])) _
    refine XS.istore X22.here hx rfl (hb hby d6_68) rfl (l' := #[va o0, vl q4, ss, va o2, vi ((q4 / (p2.toInt64)).toInt32), va b4, vi ((own_lr q4 (p2.toInt64)).toInt32)]) rfl ?_
    refine XS.aloadN X22.here hx rfl (hb hby d6_70) rfl rfl ?_
    refine XS.iconst X22.here hx rfl (hb hby d6_71) ?_
    refine XS.aload X22.here hx rfl (hb hby d6_72) rfl rfl ?_
    refine st24 _ ?_
    refine XS.iload X22.here hx rfl (hb hby d6_77) rfl ?_
    refine XS.aloadN X22.here hx rfl (hb hby d6_79) rfl rfl ?_
    refine st26 _ ?_
    show Steps p.tables e below (T26.setTop (mkF m 83 #[va o0, vl q4, ss, va o2, vi ((q4 / (p2.toInt64)).toInt32), va b4, vi ((own_lr q4 (p2.toInt64)).toInt32)] [(.int p1), (.int ((own_lr q4 (p2.toInt64)).toInt32)), (.ref b3_9), (.int 0), (.ref o2)])) _
    refine XS.imul X26.here hx rfl (hb hby d6_83) rfl ?_
    refine XS.aloadN X26.here hx rfl (hb hby d6_84) rfl rfl ?_
    refine st27 _ ?_
    refine st28 _ ?_
    refine XS.aload X28.here hx rfl (hb hby d6_91) rfl rfl ?_
    refine st32 _ ?_
    refine XS.iload X28.here hx rfl (hb hby d6_96) rfl ?_
    refine st37.trans ?_
    exact k)
  by_cases hc38 : r_37 = (0 : Int32)
  · have st40 := own_getR X37 hx hZ hown (ww hw 83 rfl) e37 fc31 (g := (mkF m 106 #[va o0, vl q4, ss, va o2, vi ((q4 / (p2.toInt64)).toInt32), va b4, vi ((own_lr q4 (p2.toInt64)).toInt32)] [(.ref b4)])) rfl rfl (hb hby d6_106)
    obtain ⟨cq41, kq41, q41a, q41b, q41c⟩ := isOf hZ e37 fc33
    obtain ⟨_, _, ⟨T41, L41, k41, n41⟩, -, X41, ⟨Lc41, hQ41, l41, y41, z41⟩, st41⟩ := X37.virtualBack hx (y := My13) (z := My13) hown (mvT hZ (ww hw 95 rfl)) (mvT hZ (ww hw 96 rfl)) (notFace_of_selects (args := #[]) (mvT hZ (ww hw 98 rfl))) (mvT hZ (ww hw 98 rfl)) (mvT hZ (ww hw 97 rfl)) (by decide) (backOf (W := 0) (rm13_0 l Z a0 hw []  b9_9 b3_10_10_9 (0 : Int32) (((p2 - (1 : Int32)) >>> ((6 : Int32) &&& 31)) + (1 : Int32)) ((own_lr q4 (p2.toInt64)).toInt32) h28 n0 O28 S fc33 fc34 fc35 fc36 P13_9 g_b9_9 g_b3_10_10_9 (own_ru0 (own_pN hP)) (own_pN hP) (own_pix hP hs)) hZ (ww hw 99 rfl) (ww hw 55 rfl) (by decide) (by decide)) q41a q41c (g := (mkF m 111 #[va o0, vl q4, ss, va o2, vi ((q4 / (p2.toInt64)).toInt32), va b4, vi ((own_lr q4 (p2.toInt64)).toInt32)] [(.int ((own_lr q4 (p2.toInt64)).toInt32)), (.ref b9_9)])) rfl (by rw [hml]; rfl) (Steps.refl _) (argsL := [(.int ((own_lr q4 (p2.toInt64)).toInt32))]) (rest := []) (lenOf pd_5 rfl) rfl (by show 2 * 0 + _ ≤ _; exact Nat.le_of_eq rfl) (hb hby d6_111) (fun _ _ => ⟨rfl, e37, (by decide : 4 + 0 ≤ _), (by decide : 16137 + 0 ≤ _)⟩)
    dsimp only [Pt.U, Pt.locs, Pt.cells, Pt.slots] at X41 l41 y41 z41 st41 hQ41
    subst l41 y41 z41
    have fc42 := ((fc19.wr W20).keep Kc28)
    have fc43 := ((V16.other W20 (Ne.symm ne_o0_o1)).keep Kc28 (ninS ne_o1_b3_9 nin0))
    have fc44 := (fc29.keep Kc28 (ninS ne_o2_b3_9 nin0))
    have fc45 := (((P0_9.wr W16).wr W20).keep Kc28)
    obtain ⟨u_41, rfl, Nq41, Kc41, P0_41, P1_41, P2_41, P3_41, np0_41⟩ := hQ41
    have N41 := Fr.app N37 Nq41
    have O41 := O28.keep Kc41 (allS g_b9_9 (allS g_b3_10_10_9 all0))
    have K41 : Keep h0 T41.heap [o0, o1] := K28.trans Kc41 (allS (Or.inr sz_b9_9) (allS (Or.inr sz_b3_10_10_9) all0))
    have fc46 := ((((((F_held_o0.ext E4).keep Kc9 (ninS ne_o0_b4 nin0)).other W16 (Or.inl ne_o0_o1)).other W20 (Or.inr (slot_ne (Or.inl (ww hw 111 rfl)) (Or.inl (ww hw 38 rfl)) (by decide) (t := .long) (t' := .int) (by decide) (by decide)))).keep Kc28 (ninS ne_o0_b3_9 nin0)).keep Kc41 (ninS ne_o0_b9_9 (ninS ne_o0_b3_10_10_9 nin0)))
    obtain ⟨T47, X47, e47, st47⟩ := getF X41 hx hZ hown (host := "") (Or.inl (ww hw 110 rfl)) Via.refl rfl fc46 (g := (mkF m 116 #[va o0, vl q4, ss, va o2, vi ((q4 / (p2.toInt64)).toInt32), va b4, vi ((own_lr q4 (p2.toInt64)).toInt32)] [(.ref o0), (.ref o0)])) rfl rfl (hb hby d6_116)
    have fc48 := (fc42.keep Kc41)
    obtain ⟨T49, h49, X49, e49, W49, st49⟩ := putF X47 hx hZ hown (host := "") (Or.inl (ww hw 110 rfl)) Via.refl e47 fc46 fc48 (Or.inl (ww hw 111 rfl)) (ww hw 7 rfl) (ty := .long) (by decide) rfl rfl (g := (mkF m 121 #[va o0, vl q4, ss, va o2, vi ((q4 / (p2.toInt64)).toInt32), va b4, vi ((own_lr q4 (p2.toInt64)).toInt32)] [(.long (q0 + (1 : Int64))), (.ref o0)])) rfl rfl (hb hby d6_121)
    have Fw49 := fc46.same W49
    have O49 := O41.wr W49 g_o0
    have K49 : Keep h0 h49 [o0, o1] := K41.wr W49 (Or.inl (List.mem_of_getElem? (i := 0) rfl))
    have N49 := Fr.snoc X49 N41 g_o0
    obtain ⟨fs, hr, hrun, hended, hW, hsame⟩ := X49.leave (v := none) (fun _ => rfl) hlk
    have fc50 := (fc48.wr W49)
    have fc51 := (((fc25.keep Kc28 (ninS ne_o0_b3_9 nin0)).keep Kc41 (ninS ne_o0_b9_9 (ninS ne_o0_b3_10_10_9 nin0))).other W49 (Or.inr (slot_ne (Or.inr (ww hw 16 rfl)) (Or.inl (ww hw 111 rfl)) (by decide) (t := .int) (t' := .long) (by decide) (by decide))))
    have fc52 := (((fc21.keep Kc28 (ninS ne_o0_b3_9 nin0)).keep Kc41 (ninS ne_o0_b9_9 (ninS ne_o0_b3_10_10_9 nin0))).other W49 (Or.inr (slot_ne (Or.inr (ww hw 23 rfl)) (Or.inl (ww hw 111 rfl)) (by decide) (t := .int) (t' := .long) (by decide) (by decide))))
    have fc53 := (((((fc13.other W16 (Or.inl ne_o0_o1)).other W20 (Or.inr (slot_ne (Or.inr (ww hw 30 rfl)) (Or.inl (ww hw 38 rfl)) (by decide) (t := (.array (.object sC2))) (t' := .int) (by decide) (by decide)))).keep Kc28 (ninS ne_o0_b3_9 nin0)).keep Kc41 (ninS ne_o0_b9_9 (ninS ne_o0_b3_10_10_9 nin0))).other W49 (Or.inr (slot_ne (Or.inr (ww hw 30 rfl)) (Or.inl (ww hw 111 rfl)) (by decide) (t := (.array (.object sC2))) (t' := .long) (by decide) (by decide))))
    have fc54 := (((Fw20.keep Kc28 (ninS ne_o0_b3_9 nin0)).keep Kc41 (ninS ne_o0_b9_9 (ninS ne_o0_b3_10_10_9 nin0))).other W49 (Or.inr (slot_ne (Or.inl (ww hw 38 rfl)) (Or.inl (ww hw 111 rfl)) (by decide) (t := .int) (t' := .long) (by decide) (by decide))))
    have fc55 := ((fc43.keep Kc41 (ninS ne_o1_b9_9 (ninS ne_o1_b3_10_10_9 nin0))).other W49 (Ne.symm ne_o0_o1))
    have fc56 := ((fc45.keep Kc41).wr W49)
    have fc57 := (((fc23.keep Kc28 (ninS ne_b4_b3_9 nin0)).keep Kc41 (ninS ne_b4_b9_9 (ninS ne_b4_b3_10_10_9 nin0))).other W49 (Or.inl (Ne.symm ne_o0_b4)))
    have fc58 := ((fc31.keep Kc41 (ninS ne_b4_b9_9 (ninS ne_b4_b3_10_10_9 nin0))).other W49 (Or.inl (Ne.symm ne_o0_b4)))
    have fc59 := ((V28.keep Kc41 (ninS P11_9 (ninS P12_9 nin0))).other W49 (Ne.symm ne_o0_b3_9))
    have fc60 := (P0_41.wr W49)
    have fc61 := (P1_41.other W49 (Or.inl (Ne.symm ne_o0_b9_9)))
    have fc62 := (P2_41.other W49 (Or.inl (Ne.symm ne_o0_b9_9)))
    have fc63 := (P3_41.other W49 (Ne.symm ne_o0_b3_10_10_9))
    refine ⟨_, _, pre_39 _ ?_, hrun, hended, _, _, rfl, ?_, ⟨_, rfl⟩, hW, hsame.mono (by decide) (by decide)⟩
    · show Steps p.tables e below (T37.setTop (mkF m 101 #[va o0, vl q4, ss, va o2, vi ((q4 / (p2.toInt64)).toInt32), va b4, vi ((own_lr q4 (p2.toInt64)).toInt32)] [(.int r_37)])) _
      refine XS.ifNo X37.here hx rfl (hb hby d6_101) rfl ((if0 _ _).trans (teq hc38).2) ?_
      refine XS.aload X37.here hx rfl (hb hby d6_104) rfl rfl ?_
      refine st40 _ ?_
      refine XS.iload X37.here hx rfl (hb hby d6_109) rfl ?_
      refine st41.trans ?_
      refine XS.aloadN X41.here hx rfl (hb hby d6_114) rfl rfl ?_
      refine XS.dup X41.here hx rfl (hb hby d6_115) rfl rfl ?_
      refine st47 _ ?_
      show Steps p.tables e below (T47.setTop (mkF m 119 #[va o0, vl q4, ss, va o2, vi ((q4 / (p2.toInt64)).toInt32), va b4, vi ((own_lr q4 (p2.toInt64)).toInt32)] [(.long q0), (.ref o0)])) _
      refine XS.lconst X47.here hx rfl (hb hby d6_119) ?_
      refine XS.ladd X47.here hx rfl (hb hby d6_120) rfl ?_
      refine st49 _ ?_
      exact X49.returnOut hx hrt (hb hby d6_124) hr
    · show Q6_0 Z  o0 o1 o2 q0 p1 p2 p3 q4 h0 n0 none T49.heap _
      rw [e49]; exact ⟨b4, b3_9, b9_9, b3_10_10_9, (q0 + (1 : Int64)), u_41, rfl, N49, K49, fc50, Fw49, fc51, fc52, fc53, fc54, fc55, fc56, fc57, fc58, fc59, fc60, fc61, fc62, fc63, sz_b4, sz_b3_9, sz_b9_9, sz_b3_10_10_9, ne_b4_b3_9, ne_b4_b9_9, ne_b4_b3_10_10_9, P11_9, P12_9, P13_9, np0_41⟩
  · obtain ⟨fs, hr, hrun, hended, hW, hsame⟩ := X37.leave (v := none) (fun _ => rfl) hlk
    have fc40 := ((fc19.wr W20).keep Kc28)
    have fc41 := (((((F_held_o0.ext E4).keep Kc9 (ninS ne_o0_b4 nin0)).other W16 (Or.inl ne_o0_o1)).other W20 (Or.inr (slot_ne (Or.inl (ww hw 111 rfl)) (Or.inl (ww hw 38 rfl)) (by decide) (t := .long) (t' := .int) (by decide) (by decide)))).keep Kc28 (ninS ne_o0_b3_9 nin0))
    have fc42 := (fc25.keep Kc28 (ninS ne_o0_b3_9 nin0))
    have fc43 := (fc21.keep Kc28 (ninS ne_o0_b3_9 nin0))
    have fc44 := (((fc13.other W16 (Or.inl ne_o0_o1)).other W20 (Or.inr (slot_ne (Or.inr (ww hw 30 rfl)) (Or.inl (ww hw 38 rfl)) (by decide) (t := (.array (.object sC2))) (t' := .int) (by decide) (by decide)))).keep Kc28 (ninS ne_o0_b3_9 nin0))
    have fc45 := (Fw20.keep Kc28 (ninS ne_o0_b3_9 nin0))
    have fc46 := ((V16.other W20 (Ne.symm ne_o0_o1)).keep Kc28 (ninS ne_o1_b3_9 nin0))
    have fc47 := (((P0_9.wr W16).wr W20).keep Kc28)
    have fc48 := (fc23.keep Kc28 (ninS ne_b4_b3_9 nin0))
    refine ⟨_, _, pre_39 _ ?_, hrun, hended, _, _, rfl, ?_, ⟨_, rfl⟩, hW, hsame.mono (by decide) (by decide)⟩
    · show Steps p.tables e below (T37.setTop (mkF m 101 #[va o0, vl q4, ss, va o2, vi ((q4 / (p2.toInt64)).toInt32), va b4, vi ((own_lr q4 (p2.toInt64)).toInt32)] [(.int r_37)])) _
      refine XS.ifYes X37.here hx rfl (pc0 := 101) (pc' := 124) rfl (hb hby d6_101) rfl ((if0 _ _).trans (feq hc38).2) (by decide) (by decide) ?_
      exact X37.returnOut hx hrt (hb hby d6_124) hr
    · show Q6_0 Z  o0 o1 o2 q0 p1 p2 p3 q4 h0 n0 none T37.heap _
      rw [e37]; exact ⟨b4, b3_9, b9_9, b3_10_10_9, q0, (0 : Int32), rfl, N37, K28, fc40, fc41, fc42, fc43, fc44, fc45, fc46, fc47, fc48, fc31, V28, fc33, fc34, fc35, fc36, sz_b4, sz_b3_9, sz_b9_9, sz_b3_10_10_9, ne_b4_b3_9, ne_b4_b9_9, ne_b4_b3_10_10_9, P11_9, P12_9, P13_9, (own_ru0 (own_pN hP))⟩
theorem pd_9 : parseMethodDescriptor "(J[B)V" = some ⟨[.long, (.array .byte)], none⟩ := by decide +kernel
def Q5_1 (Z : State) (o0 : Addr) (o1 : Addr) (o2 : Addr) (o3 : Addr) (o4 : Addr) (o5 : Addr) (q0 : Int64) (p1 : Int32) (p2 : Int32) (p3 : Int32) (p4 : Int32) (p5 : Int32) (p7 : Int32) (p6 : Int32) (h0 : Heap) (n0 : Nat) (v : Option Value) (h : Heap) (L : List Loc) : Prop := v = (some (.long (((p3.toInt64) * (8 : Int64)) + ((1 : Int64) * ((((p2.toInt64) * (p1.toInt64)) + ((p2 / (8 : Int32)).toInt64)) + (64 : Int64)))))) ∧ Fr n0 L ∧ h = h0
theorem rm5_1 (l : Launch) (Z : State) (a0 : Array Value) (hw : HW Z a0) (ws : List Jvm.Cond) (o0 : Addr) (o1 : Addr) (o2 : Addr) (o3 : Addr) (o4 : Addr) (o5 : Addr) (q0 : Int64) (p1 : Int32) (p2 : Int32) (p3 : Int32) (p4 : Int32) (p5 : Int32) (p7 : Int32) (p6 : Int32) (h0 : Heap) (n0 : Nat) (O0 : Old Z n0 h0) (S : SF Z ) (F_length_o0 : Fld Z h0 o0 sC0 "length" "I" (.int p1)) (F_pageSlots_o0 : Fld Z h0 o0 sC0 "pageSlots" "I" (.int p2)) (F_pages_o0 : Fld Z h0 o0 sC0 "pages" "[Lcom/example/tributary/tributary/model/NodeHashes$Page;" (.ref o1)) (F_pagesMade_o0 : Fld Z h0 o0 sC0 "pagesMade" "I" (.int 1)) (V_o1 : PA Z h0 o1 p3 [(p4, (.ref o2))]) :
    Pay l Z My5 ws prog_47_method_8_code 1 (some .long) #[(.ref o0)] h0 ({ frames := 0, cells := 0, slots := 0, locals := 0 } : Room) (Q5_1 Z  o0 o1 o2 o3 o4 o5 q0 p1 p2 p3 p4 p5 p7 p6 h0 n0) := by
  refine own_body (plainFor_of_name pn_1) (L0 := #[va o0]) (fun _ => by first | rfl | (simp [entryFrame, mkF, argsToLocals, Value.category]; done)) ?_
  intro p e s m below meth c s₁ hrt hlk hx hby hml hZ hown0 hnm X0 e0
  have hown : s.vm.findClass sC0 = some m.cls := hown0
  have N0 := Fr.nil n0
  have K0 : Keep h0 h0 [] := Keep.refl _ _
  obtain ⟨T1, X1, e1, st1⟩ := getF X0 hx hZ hown (host := "") (Or.inl (ww hw 29 rfl)) Via.refl e0 F_pages_o0 (g := (mkF m 1 #[va o0] [(.ref o0)])) rfl rfl (hb hby d5_1)
  obtain ⟨T2, X2, e2, st2⟩ := getF X1 hx hZ hown (host := "") (Or.inl (ww hw 37 rfl)) Via.refl e1 F_pagesMade_o0 (g := (mkF m 11 #[va o0] [(.ref o0), (.long ((p3.toInt64) * (8 : Int64)))])) rfl rfl (hb hby d5_11)
  obtain ⟨T3, X3, e3, st3⟩ := getF X2 hx hZ hown (host := "") (Or.inl (ww hw 22 rfl)) Via.refl e2 F_pageSlots_o0 (g := (mkF m 16 #[va o0] [(.ref o0), (.long 1), (.long ((p3.toInt64) * (8 : Int64)))])) rfl rfl (hb hby d5_16)
  obtain ⟨T4, X4, e4, st4⟩ := getF X3 hx hZ hown (host := "") (Or.inl (ww hw 15 rfl)) Via.refl e3 F_length_o0 (g := (mkF m 21 #[va o0] [(.ref o0), (.long (p2.toInt64)), (.long 1), (.long ((p3.toInt64) * (8 : Int64)))])) rfl rfl (hb hby d5_21)
  obtain ⟨T5, X5, e5, st5⟩ := getF X4 hx hZ hown (host := "") (Or.inl (ww hw 22 rfl)) Via.refl e4 F_pageSlots_o0 (g := (mkF m 27 #[va o0] [(.ref o0), (.long ((p2.toInt64) * (p1.toInt64))), (.long 1), (.long ((p3.toInt64) * (8 : Int64)))])) rfl rfl (hb hby d5_27)
  obtain ⟨fs, hr, hrun, hended, hW, hsame⟩ := X5.leave (v := (some (.long (((p3.toInt64) * (8 : Int64)) + ((1 : Int64) * ((((p2.toInt64) * (p1.toInt64)) + ((p2 / (8 : Int32)).toInt64)) + (64 : Int64))))))) (fun h => by rw [hrt] at h; cases h) hlk
  refine ⟨_, _, ?_, hrun, hended, _, _, rfl, ?_, ⟨_, rfl⟩, hW, hsame.mono (by decide) (by decide)⟩
  · show Steps p.tables e below (s₁.setTop (mkF m 0 #[va o0] [])) _
    refine XS.aloadN X0.here hx rfl (hb hby d5_0) rfl rfl ?_
    refine st1 _ ?_
    refine own_alenP X1 hx hZ e1 V_o1 (g := (mkF m 4 #[va o0] [(.ref o1)])) rfl rfl (hb hby d5_4) _ ?_
    refine XS.i2l X1.here hx rfl (hb hby d5_5) rfl ?_
    refine X1.ldc2Long hx hown (mvT hZ (ww hw 36 rfl)) (g := (mkF m 6 #[va o0] [(.long (p3.toInt64))])) rfl (hb hby d5_6) _ ?_
    refine XS.lmul X1.here hx rfl (hb hby d5_9) rfl ?_
    refine XS.aloadN X1.here hx rfl (hb hby d5_10) rfl rfl ?_
    refine st2 _ ?_
    show Steps p.tables e below (T2.setTop (mkF m 14 #[va o0] [(.int 1), (.long ((p3.toInt64) * (8 : Int64)))])) _
    refine XS.i2l X2.here hx rfl (hb hby d5_14) rfl ?_
    show Steps p.tables e below (T2.setTop (mkF m 15 #[va o0] [(.long ((1 : Int32).toInt64)), (.long ((p3.toInt64) * (8 : Int64)))])) _
    rw [show (((1 : Int32).toInt64) : Int64) = (1 : Int64) from by decide]
    refine XS.aloadN X2.here hx rfl (hb hby d5_15) rfl rfl ?_
    refine st3 _ ?_
    refine XS.i2l X3.here hx rfl (hb hby d5_19) rfl ?_
    refine XS.aloadN X3.here hx rfl (hb hby d5_20) rfl rfl ?_
    refine st4 _ ?_
    refine XS.i2l X4.here hx rfl (hb hby d5_24) rfl ?_
    refine XS.lmul X4.here hx rfl (hb hby d5_25) rfl ?_
    show Steps p.tables e below (T4.setTop (mkF m 26 #[va o0] [(.long ((p2.toInt64) * (p1.toInt64))), (.long 1), (.long ((p3.toInt64) * (8 : Int64)))])) _
    refine XS.aloadN X4.here hx rfl (hb hby d5_26) rfl rfl ?_
    refine st5 _ ?_
    refine XS.bipush X5.here hx rfl (hb hby d5_30) ?_
    refine XS.idiv X5.here hx rfl (hb hby d5_32) rfl (by decide) ?_
    refine XS.i2l X5.here hx rfl (hb hby d5_33) rfl ?_
    refine XS.ladd X5.here hx rfl (hb hby d5_34) rfl ?_
    refine X5.ldc2Long hx hown (mvT hZ (ww hw 39 rfl)) (g := (mkF m 35 #[va o0] [(.long (((p2.toInt64) * (p1.toInt64)) + ((p2 / (8 : Int32)).toInt64))), (.long 1), (.long ((p3.toInt64) * (8 : Int64)))])) rfl (hb hby d5_35) _ ?_
    refine XS.ladd X5.here hx rfl (hb hby d5_38) rfl ?_
    show Steps p.tables e below (T5.setTop (mkF m 39 #[va o0] [(.long ((((p2.toInt64) * (p1.toInt64)) + ((p2 / (8 : Int32)).toInt64)) + (64 : Int64))), (.long 1), (.long ((p3.toInt64) * (8 : Int64)))])) _
    refine XS.lmul X5.here hx rfl (hb hby d5_39) rfl ?_
    refine XS.ladd X5.here hx rfl (hb hby d5_40) rfl ?_
    exact retOut X5 hx (t := .long) (i := .lreturn) hrt rfl (Or.inr (Or.inl ⟨rfl, rfl, _, rfl⟩)) (hb hby d5_41) hr
  · show Q5_1 Z  o0 o1 o2 o3 o4 o5 q0 p1 p2 p3 p4 p5 p7 p6 h0 n0 (some (.long (((p3.toInt64) * (8 : Int64)) + ((1 : Int64) * ((((p2.toInt64) * (p1.toInt64)) + ((p2 / (8 : Int32)).toInt64)) + (64 : Int64)))))) T5.heap _
    exact (⟨rfl, N0, e5⟩)
def Q6_1 (Z : State) (o0 : Addr) (o1 : Addr) (o2 : Addr) (o3 : Addr) (o4 : Addr) (o5 : Addr) (o6 : Addr) (q0 : Int64) (p1 : Int32) (p2 : Int32) (p3 : Int32) (p4 : Int32) (p5 : Int32) (p7 : Int32) (p6 : Int32) (q8 : Int64) (h0 : Heap) (n0 : Nat) (v : Option Value) (h : Heap) (L : List Loc) : Prop := ∃ (hv : Int64), ∃ (u : Int32), v = none ∧ Fr n0 L ∧ Keep h0 h [o0, o3, o4, o5] ∧ Exa Z h o0 sC0 ∧ Fld Z h o0 sC0 "held" "J" (.long hv) ∧ Fld Z h o0 sC0 "length" "I" (.int p1) ∧ Fld Z h o0 sC0 "pageSlots" "I" (.int p2) ∧ Fld Z h o0 sC0 "pages" "[Lcom/example/tributary/tributary/model/NodeHashes$Page;" (.ref o1) ∧ Fld Z h o0 sC0 "pagesMade" "I" (.int 1) ∧ BA Z h o3 p5 ∧ Exa Z h o4 sC1 ∧ Fld Z h o4 sC1 "words" "[J" (.ref o5) ∧ Fld Z h o4 sC1 "wordsInUse" "I" (.int u) ∧ LA Z h o5 p6 ∧ RU u p6
theorem rm6_1 (l : Launch) (Z : State) (a0 : Array Value) (hw : HW Z a0) (ws : List Jvm.Cond) (o0 : Addr) (o1 : Addr) (o2 : Addr) (o3 : Addr) (o4 : Addr) (o5 : Addr) (o6 : Addr) (q0 : Int64) (p1 : Int32) (p2 : Int32) (p3 : Int32) (p4 : Int32) (p5 : Int32) (p7 : Int32) (p6 : Int32) (q8 : Int64) (h0 : Heap) (n0 : Nat) (O0 : Old Z n0 h0) (S : SF Z ) (E_o0 : Exa Z h0 o0 sC0) (F_held_o0 : Fld Z h0 o0 sC0 "held" "J" (.long q0)) (F_length_o0 : Fld Z h0 o0 sC0 "length" "I" (.int p1)) (F_pageSlots_o0 : Fld Z h0 o0 sC0 "pageSlots" "I" (.int p2)) (F_pages_o0 : Fld Z h0 o0 sC0 "pages" "[Lcom/example/tributary/tributary/model/NodeHashes$Page;" (.ref o1)) (F_pagesMade_o0 : Fld Z h0 o0 sC0 "pagesMade" "I" (.int 1)) (V_o1 : PA Z h0 o1 p3 [(p4, (.ref o2))]) (E_o2 : Exa Z h0 o2 sC2) (F_hashes_o2 : Fld Z h0 o2 sC2 "hashes" "[B" (.ref o3)) (F_held_o2 : Fld Z h0 o2 sC2 "held" "Ljava/util/BitSet;" (.ref o4)) (V_o3 : BA Z h0 o3 p5) (E_o4 : Exa Z h0 o4 sC1) (F_words_o4 : Fld Z h0 o4 sC1 "words" "[J" (.ref o5)) (F_wordsInUse_o4 : Fld Z h0 o4 sC1 "wordsInUse" "I" (.int p7)) (V_o5 : LA Z h0 o5 p6) (V_o6 : BA Z h0 o6 (64 : Int32)) (ne_o0_o3 : o0 ≠ o3) (ne_o0_o4 : o0 ≠ o4) (ne_o0_o5 : o0 ≠ o5) (ne_o1_o3 : o1 ≠ o3) (ne_o2_o3 : o2 ≠ o3) (ne_o3_o4 : o3 ≠ o4) (ne_o3_o5 : o3 ≠ o5) (ne_o3_o6 : o3 ≠ o6) (ne_o4_o5 : o4 ≠ o5) (g_o0 : n0 ≤ o0) (g_o3 : n0 ≤ o3) (g_o4 : n0 ≤ o4) (g_o5 : n0 ≤ o5) (hP : NP p1 p2) (hs : SL q8 p2 p3) (hj : ((q8 / (p2.toInt64)).toInt32) = p4) (hl : p5 = (p2 * p1)) (hwn : p6 = (((p2 - (1 : Int32)) >>> ((6 : Int32) &&& 31)) + (1 : Int32))) (hU : RU p7 p6) :
    Pay l Z My6 ws prog_47_method_2_code 7 none #[(.ref o0), (.long q8), (.ref o6)] h0 ({ frames := 3, cells := 0, slots := 0, locals := 42 } : Room) (Q6_1 Z  o0 o1 o2 o3 o4 o5 o6 q0 p1 p2 p3 p4 p5 p7 p6 q8 h0 n0) := by
  refine own_body (plainFor_of_name pn_1) (L0 := #[va o0, vl q8, ss, va o6, uu, uu, uu]) (fun _ => by first | rfl | (simp [entryFrame, mkF, argsToLocals, Value.category]; done)) ?_
  intro p e s m below meth c s₁ hrt hlk hx hby hml hZ hown0 hnm X0 e0
  have hown : s.vm.findClass sC0 = some m.cls := hown0
  have N0 := Fr.nil n0
  have K0 : Keep h0 h0 [o0, o3, o4, o5] := Keep.refl _ _
  obtain ⟨T1, X1, e1, st1⟩ := getF X0 hx hZ hown (host := "") (Or.inl (ww hw 22 rfl)) Via.refl e0 F_pageSlots_o0 (g := (mkF m 2 #[va o0, vl q8, ss, va o6, uu, uu, uu] [(.ref o0), (.long q8)])) rfl rfl (hb hby d6_2)
  have hc2 : ¬ ((p2.toInt64) = (0 : Int64)) := (own_p0 hP)
  obtain ⟨T3, X3, e3, st3⟩ := getF X1 hx hZ hown (host := "") (Or.inl (ww hw 29 rfl)) Via.refl e1 F_pages_o0 (g := (mkF m 11 #[va o0, vl q8, ss, va o6, vi ((q8 / (p2.toInt64)).toInt32), uu, uu] [(.ref o0)])) rfl rfl (hb hby d6_11)
  have hc4 : ((q8 / (p2.toInt64)).toInt32) = p4 := hj
  obtain ⟨T5, X5, e5, st5⟩ := getF X3 hx hZ hown (host := "") (Or.inl (ww hw 22 rfl)) Via.refl e3 F_pageSlots_o0 (g := (mkF m 62 #[va o0, vl q8, ss, va o6, vi ((q8 / (p2.toInt64)).toInt32), va o2, uu] [(.ref o0), (.long q8)])) rfl rfl (hb hby d6_62)
  have st6 := own_getR X5 hx hZ hown (ww hw 78 rfl) e5 F_hashes_o2 (g := (mkF m 74 #[va o0, vl q8, ss, va o6, vi ((q8 / (p2.toInt64)).toInt32), va o2, vi ((own_lr q8 (p2.toInt64)).toInt32)] [(.ref o2), (.int 0), (.ref o6)])) rfl rfl (hb hby d6_74)
  obtain ⟨T7, X7, e7, st7⟩ := getF X5 hx hZ hown (host := "") (Or.inl (ww hw 15 rfl)) Via.refl e5 F_length_o0 (g := (mkF m 80 #[va o0, vl q8, ss, va o6, vi ((q8 / (p2.toInt64)).toInt32), va o2, vi ((own_lr q8 (p2.toInt64)).toInt32)] [(.ref o0), (.int ((own_lr q8 (p2.toInt64)).toInt32)), (.ref o3), (.int 0), (.ref o6)])) rfl rfl (hb hby d6_80)
  obtain ⟨T8, X8, e8, st8⟩ := getF X7 hx hZ hown (host := "") (Or.inl (ww hw 15 rfl)) Via.refl e7 F_length_o0 (g := (mkF m 85 #[va o0, vl q8, ss, va o6, vi ((q8 / (p2.toInt64)).toInt32), va o2, vi ((own_lr q8 (p2.toInt64)).toInt32)] [(.ref o0), (.int (((own_lr q8 (p2.toInt64)).toInt32) * p1)), (.ref o3), (.int 0), (.ref o6)])) rfl rfl (hb hby d6_85)
  have cp9 : cpOK (((own_lr q8 (p2.toInt64)).toInt32) * p1) p1 p5 := (hl ▸ own_pcp hP hs)
  obtain ⟨T9, h9, L9, X9, e9, N9, Kc9, V9, st9⟩ := own_cpB X8 hx hZ hown (ww hw 79 rfl) (ww hw 82 rfl) (ww hw 80 rfl) (ww hw 81 rfl) e8 V_o6 V_o3 (sp := (0 : Int32)) (dp := (((own_lr q8 (p2.toInt64)).toInt32) * p1)) (nn := p1) (by decide) cp9.1 cp9.2.1 cp9.2.2.1 cp9.2.2.2 N0 g_o3 (g := (mkF m 88 #[va o0, vl q8, ss, va o6, vi ((q8 / (p2.toInt64)).toInt32), va o2, vi ((own_lr q8 (p2.toInt64)).toInt32)] [(.int p1), (.int (((own_lr q8 (p2.toInt64)).toInt32) * p1)), (.ref o3), (.int 0), (.ref o6)])) rfl (by rw [hml]; rfl) (rest := []) rfl (hb hby d6_88) (by decide) (W := 0) (by show 2 * 0 + _ ≤ _; exact Nat.le_of_eq rfl) (by decide)
  have O9 := O0.keep Kc9 (allS g_o3 all0)
  have K9 : Keep h0 h9 [o0, o3, o4, o5] := K0.trans Kc9 (allS (Or.inl (List.mem_of_getElem? (i := 1) rfl)) all0)
  have fc10 := (F_held_o2.keep Kc9 (ninS ne_o2_o3 nin0))
  have st11 := own_getR X9 hx hZ hown (ww hw 83 rfl) e9 fc10 (g := (mkF m 93 #[va o0, vl q8, ss, va o6, vi ((q8 / (p2.toInt64)).toInt32), va o2, vi ((own_lr q8 (p2.toInt64)).toInt32)] [(.ref o2)])) rfl rfl (hb hby d6_93)
  have fc12 := (E_o4.keep Kc9)
  have fc13 := (F_words_o4.keep Kc9 (ninS (Ne.symm ne_o3_o4) nin0))
  have fc14 := (F_wordsInUse_o4.keep Kc9 (ninS (Ne.symm ne_o3_o4) nin0))
  have fc15 := (V_o5.keep Kc9 (ninS (Ne.symm ne_o3_o5) nin0))
  obtain ⟨cq16, kq16, q16a, q16b, q16c⟩ := isOf hZ e9 fc12
  obtain ⟨_, _, ⟨T16, L16, k16, n16⟩, -, X16, ⟨Lc16, hQ16, l16, y16, z16⟩, st16⟩ := X9.virtualBack hx (y := My11) (z := My11) hown (mvT hZ (ww hw 84 rfl)) (mvT hZ (ww hw 85 rfl)) (notFace_of_selects (args := #[]) (mvT hZ (ww hw 87 rfl))) (mvT hZ (ww hw 87 rfl)) (mvT hZ (ww hw 86 rfl)) (by decide) (backOf (W := 0) (rm11_0 l Z a0 hw []  o4 o5 p7 p6 ((own_lr q8 (p2.toInt64)).toInt32) h9 n0 O9 S fc12 fc13 fc14 fc15 hU (own_pk hP hs).1) hZ (ww hw 88 rfl) (ww hw 55 rfl) (by decide) (by decide)) q16a q16c (g := (mkF m 98 #[va o0, vl q8, ss, va o6, vi ((q8 / (p2.toInt64)).toInt32), va o2, vi ((own_lr q8 (p2.toInt64)).toInt32)] [(.int ((own_lr q8 (p2.toInt64)).toInt32)), (.ref o4)])) rfl (by rw [hml]; rfl) (Steps.refl _) (argsL := [(.int ((own_lr q8 (p2.toInt64)).toInt32))]) (rest := []) (lenOf pd_8 rfl) rfl (by show 2 * 0 + _ ≤ _; exact Nat.le_of_eq rfl) (hb hby d6_98) (fun _ _ => ⟨rfl, e9, (by decide : 0 + 0 ≤ _), (by decide : 0 + 0 ≤ _)⟩)
  dsimp only [Pt.U, Pt.locs, Pt.cells, Pt.slots] at X16 l16 y16 z16 st16 hQ16
  subst l16 y16 z16
  obtain ⟨r_16, rfl, Nq16, e16⟩ := hQ16
  have N16 := Fr.app N9 Nq16
  have pre_18 : ∀ t, Steps p.tables e below (T16.setTop (mkF m 101 #[va o0, vl q8, ss, va o6, vi ((q8 / (p2.toInt64)).toInt32), va o2, vi ((own_lr q8 (p2.toInt64)).toInt32)] [(.int r_16)])) t → Steps p.tables e below (s₁.setTop (mkF m 0 #[va o0, vl q8, ss, va o6, uu, uu, uu] [])) t := fun t k => (by
    show Steps p.tables e below (s₁.setTop (mkF m 0 #[va o0, vl q8, ss, va o6, uu, uu, uu] [])) _
    refine XS.lloadN X0.here hx rfl (hb hby d6_0) rfl ?_
    refine XS.aloadN X0.here hx rfl (hb hby d6_1) rfl rfl ?_
    refine st1 _ ?_
    refine XS.i2l X1.here hx rfl (hb hby d6_5) rfl ?_
    refine XS.ldiv X1.here hx rfl (hb hby d6_6) rfl hc2 ?_
    refine XS.l2i X1.here hx rfl (hb hby d6_7) rfl ?_
    refine XS.istore X1.here hx rfl (hb hby d6_8) rfl (l' := #[va o0, vl q8, ss, va o6, vi ((q8 / (p2.toInt64)).toInt32), uu, uu]) rfl ?_
    refine XS.aloadN X1.here hx rfl (hb hby d6_10) rfl rfl ?_
    show Steps p.tables e below (T1.setTop (mkF m 11 #[va o0, vl q8, ss, va o6, vi ((q8 / (p2.toInt64)).toInt32), uu, uu] [(.ref o0)])) _
    refine st3 _ ?_
    refine XS.iload X3.here hx rfl (hb hby d6_14) rfl ?_
    refine own_aaload X3 hx hZ e3 V_o1 (own_pj hP hs) (v := (.ref o2)) (getH_hit (own_pj hP hs).1 hc4) (g := (mkF m 16 #[va o0, vl q8, ss, va o6, vi ((q8 / (p2.toInt64)).toInt32), uu, uu] [(.int ((q8 / (p2.toInt64)).toInt32)), (.ref o1)])) rfl rfl (hb hby d6_16) _ ?_
    refine XS.astore X3.here hx rfl (hb hby d6_17) rfl rfl (l' := #[va o0, vl q8, ss, va o6, vi ((q8 / (p2.toInt64)).toInt32), va o2, uu]) rfl ?_
    refine XS.aload X3.here hx rfl (hb hby d6_19) rfl rfl ?_
    refine XS.ifnonnullYes X3.here hx rfl (pc0 := 21) (pc' := 60) rfl (hb hby d6_21) rfl (by decide) (by decide) ?_
    refine XS.lloadN X3.here hx rfl (hb hby d6_60) rfl ?_
    refine XS.aloadN X3.here hx rfl (hb hby d6_61) rfl rfl ?_
    show Steps p.tables e below (T3.setTop (mkF m 62 #[va o0, vl q8, ss, va o6, vi ((q8 / (p2.toInt64)).toInt32), va o2, uu] [(.ref o0), (.long q8)])) _
    refine st5 _ ?_
    refine XS.i2l X5.here hx rfl (hb hby d6_65) rfl ?_
    refine XS.lrem X5.here hx rfl (hb hby d6_66) rfl hc2 ?_
    refine XS.l2i X5.here hx rfl (hb hby d6_67) rfl ?_
    refine XS.istore X5.here hx rfl (hb hby d6_68) rfl (l' := #[va o0, vl q8, ss, va o6, vi ((q8 / (p2.toInt64)).toInt32), va o2, vi ((own_lr q8 (p2.toInt64)).toInt32)]) rfl ?_
    refine XS.aloadN X5.here hx rfl (hb hby d6_70) rfl rfl ?_
    refine XS.iconst X5.here hx rfl (hb hby d6_71) ?_
    refine XS.aload X5.here hx rfl (hb hby d6_72) rfl rfl ?_
    show Steps p.tables e below (T5.setTop (mkF m 74 #[va o0, vl q8, ss, va o6, vi ((q8 / (p2.toInt64)).toInt32), va o2, vi ((own_lr q8 (p2.toInt64)).toInt32)] [(.ref o2), (.int 0), (.ref o6)])) _
    refine st6 _ ?_
    refine XS.iload X5.here hx rfl (hb hby d6_77) rfl ?_
    refine XS.aloadN X5.here hx rfl (hb hby d6_79) rfl rfl ?_
    refine st7 _ ?_
    refine XS.imul X7.here hx rfl (hb hby d6_83) rfl ?_
    refine XS.aloadN X7.here hx rfl (hb hby d6_84) rfl rfl ?_
    refine st8 _ ?_
    refine st9 _ ?_
    show Steps p.tables e below (T9.setTop (mkF m 91 #[va o0, vl q8, ss, va o6, vi ((q8 / (p2.toInt64)).toInt32), va o2, vi ((own_lr q8 (p2.toInt64)).toInt32)] [])) _
    refine XS.aload X9.here hx rfl (hb hby d6_91) rfl rfl ?_
    refine st11 _ ?_
    refine XS.iload X9.here hx rfl (hb hby d6_96) rfl ?_
    refine st16.trans ?_
    exact k)
  by_cases hc17 : r_16 = (0 : Int32)
  · have st19 := own_getR X16 hx hZ hown (ww hw 83 rfl) e16 fc10 (g := (mkF m 106 #[va o0, vl q8, ss, va o6, vi ((q8 / (p2.toInt64)).toInt32), va o2, vi ((own_lr q8 (p2.toInt64)).toInt32)] [(.ref o2)])) rfl rfl (hb hby d6_106)
    obtain ⟨cq20, kq20, q20a, q20b, q20c⟩ := isOf hZ e16 fc12
    obtain ⟨_, _, ⟨T20, L20, k20, n20⟩, -, X20, ⟨Lc20, hQ20, l20, y20, z20⟩, st20⟩ := X16.virtualBack hx (y := My13) (z := My13) hown (mvT hZ (ww hw 95 rfl)) (mvT hZ (ww hw 96 rfl)) (notFace_of_selects (args := #[]) (mvT hZ (ww hw 98 rfl))) (mvT hZ (ww hw 98 rfl)) (mvT hZ (ww hw 97 rfl)) (by decide) (backOf (W := 0) (rm13_0 l Z a0 hw []  o4 o5 p7 p6 ((own_lr q8 (p2.toInt64)).toInt32) h9 n0 O9 S fc12 fc13 fc14 fc15 ne_o4_o5 g_o4 g_o5 hU (by rw [hwn]; exact own_pN hP) (by rw [hwn]; exact own_pix hP hs)) hZ (ww hw 99 rfl) (ww hw 55 rfl) (by decide) (by decide)) q20a q20c (g := (mkF m 111 #[va o0, vl q8, ss, va o6, vi ((q8 / (p2.toInt64)).toInt32), va o2, vi ((own_lr q8 (p2.toInt64)).toInt32)] [(.int ((own_lr q8 (p2.toInt64)).toInt32)), (.ref o4)])) rfl (by rw [hml]; rfl) (Steps.refl _) (argsL := [(.int ((own_lr q8 (p2.toInt64)).toInt32))]) (rest := []) (lenOf pd_5 rfl) rfl (by show 2 * 0 + _ ≤ _; exact Nat.le_of_eq rfl) (hb hby d6_111) (fun _ _ => ⟨rfl, e16, (by decide : 0 + 0 ≤ _), (by decide : 0 + 0 ≤ _)⟩)
    dsimp only [Pt.U, Pt.locs, Pt.cells, Pt.slots] at X20 l20 y20 z20 st20 hQ20
    subst l20 y20 z20
    have fc21 := (E_o0.keep Kc9)
    have fc22 := (V_o1.keep Kc9 (ninS ne_o1_o3 nin0))
    have fc23 := (E_o2.keep Kc9)
    have fc24 := (V_o6.keep Kc9 (ninS (Ne.symm ne_o3_o6) nin0))
    obtain ⟨u_20, rfl, Nq20, Kc20, P0_20, P1_20, P2_20, P3_20, np0_20⟩ := hQ20
    have N20 := Fr.app N16 Nq20
    have O20 := O9.keep Kc20 (allS g_o4 (allS g_o5 all0))
    have K20 : Keep h0 T20.heap [o0, o3, o4, o5] := K9.trans Kc20 (allS (Or.inl (List.mem_of_getElem? (i := 2) rfl)) (allS (Or.inl (List.mem_of_getElem? (i := 3) rfl)) all0))
    have fc25 := ((F_held_o0.keep Kc9 (ninS ne_o0_o3 nin0)).keep Kc20 (ninS ne_o0_o4 (ninS ne_o0_o5 nin0)))
    obtain ⟨T26, X26, e26, st26⟩ := getF X20 hx hZ hown (host := "") (Or.inl (ww hw 110 rfl)) Via.refl rfl fc25 (g := (mkF m 116 #[va o0, vl q8, ss, va o6, vi ((q8 / (p2.toInt64)).toInt32), va o2, vi ((own_lr q8 (p2.toInt64)).toInt32)] [(.ref o0), (.ref o0)])) rfl rfl (hb hby d6_116)
    have fc27 := (fc21.keep Kc20)
    obtain ⟨T28, h28, X28, e28, W28, st28⟩ := putF X26 hx hZ hown (host := "") (Or.inl (ww hw 110 rfl)) Via.refl e26 fc25 fc27 (Or.inl (ww hw 111 rfl)) (ww hw 7 rfl) (ty := .long) (by decide) rfl rfl (g := (mkF m 121 #[va o0, vl q8, ss, va o6, vi ((q8 / (p2.toInt64)).toInt32), va o2, vi ((own_lr q8 (p2.toInt64)).toInt32)] [(.long (q0 + (1 : Int64))), (.ref o0)])) rfl rfl (hb hby d6_121)
    have Fw28 := fc25.same W28
    have O28 := O20.wr W28 g_o0
    have K28 : Keep h0 h28 [o0, o3, o4, o5] := K20.wr W28 (Or.inl (List.mem_of_getElem? (i := 0) rfl))
    have N28 := Fr.snoc X28 N20 g_o0
    obtain ⟨fs, hr, hrun, hended, hW, hsame⟩ := X28.leave (v := none) (fun _ => rfl) hlk
    have fc29 := (fc27.wr W28)
    have fc30 := (((F_length_o0.keep Kc9 (ninS ne_o0_o3 nin0)).keep Kc20 (ninS ne_o0_o4 (ninS ne_o0_o5 nin0))).other W28 (Or.inr (slot_ne (Or.inr (ww hw 16 rfl)) (Or.inl (ww hw 111 rfl)) (by decide) (t := .int) (t' := .long) (by decide) (by decide))))
    have fc31 := (((F_pageSlots_o0.keep Kc9 (ninS ne_o0_o3 nin0)).keep Kc20 (ninS ne_o0_o4 (ninS ne_o0_o5 nin0))).other W28 (Or.inr (slot_ne (Or.inr (ww hw 23 rfl)) (Or.inl (ww hw 111 rfl)) (by decide) (t := .int) (t' := .long) (by decide) (by decide))))
    have fc32 := (((F_pages_o0.keep Kc9 (ninS ne_o0_o3 nin0)).keep Kc20 (ninS ne_o0_o4 (ninS ne_o0_o5 nin0))).other W28 (Or.inr (slot_ne (Or.inr (ww hw 30 rfl)) (Or.inl (ww hw 111 rfl)) (by decide) (t := (.array (.object sC2))) (t' := .long) (by decide) (by decide))))
    have fc33 := (((F_pagesMade_o0.keep Kc9 (ninS ne_o0_o3 nin0)).keep Kc20 (ninS ne_o0_o4 (ninS ne_o0_o5 nin0))).other W28 (Or.inr (slot_ne (Or.inl (ww hw 38 rfl)) (Or.inl (ww hw 111 rfl)) (by decide) (t := .int) (t' := .long) (by decide) (by decide))))
    have fc34 := ((V9.keep Kc20 (ninS ne_o3_o4 (ninS ne_o3_o5 nin0))).other W28 (Ne.symm ne_o0_o3))
    have fc35 := (P0_20.wr W28)
    have fc36 := (P1_20.other W28 (Or.inl (Ne.symm ne_o0_o4)))
    have fc37 := (P2_20.other W28 (Or.inl (Ne.symm ne_o0_o4)))
    have fc38 := (P3_20.other W28 (Ne.symm ne_o0_o5))
    refine ⟨_, _, pre_18 _ ?_, hrun, hended, _, _, rfl, ?_, ⟨_, rfl⟩, hW, hsame.mono (by decide) (by decide)⟩
    · show Steps p.tables e below (T16.setTop (mkF m 101 #[va o0, vl q8, ss, va o6, vi ((q8 / (p2.toInt64)).toInt32), va o2, vi ((own_lr q8 (p2.toInt64)).toInt32)] [(.int r_16)])) _
      refine XS.ifNo X16.here hx rfl (hb hby d6_101) rfl ((if0 _ _).trans (teq hc17).2) ?_
      refine XS.aload X16.here hx rfl (hb hby d6_104) rfl rfl ?_
      refine st19 _ ?_
      refine XS.iload X16.here hx rfl (hb hby d6_109) rfl ?_
      refine st20.trans ?_
      refine XS.aloadN X20.here hx rfl (hb hby d6_114) rfl rfl ?_
      refine XS.dup X20.here hx rfl (hb hby d6_115) rfl rfl ?_
      refine st26 _ ?_
      show Steps p.tables e below (T26.setTop (mkF m 119 #[va o0, vl q8, ss, va o6, vi ((q8 / (p2.toInt64)).toInt32), va o2, vi ((own_lr q8 (p2.toInt64)).toInt32)] [(.long q0), (.ref o0)])) _
      refine XS.lconst X26.here hx rfl (hb hby d6_119) ?_
      refine XS.ladd X26.here hx rfl (hb hby d6_120) rfl ?_
      refine st28 _ ?_
      exact X28.returnOut hx hrt (hb hby d6_124) hr
    · show Q6_1 Z  o0 o1 o2 o3 o4 o5 o6 q0 p1 p2 p3 p4 p5 p7 p6 q8 h0 n0 none T28.heap _
      rw [e28]; exact ⟨(q0 + (1 : Int64)), u_20, rfl, N28, K28, fc29, Fw28, fc30, fc31, fc32, fc33, fc34, fc35, fc36, fc37, fc38, np0_20⟩
  · obtain ⟨fs, hr, hrun, hended, hW, hsame⟩ := X16.leave (v := none) (fun _ => rfl) hlk
    have fc19 := (E_o0.keep Kc9)
    have fc20 := (F_held_o0.keep Kc9 (ninS ne_o0_o3 nin0))
    have fc21 := (F_length_o0.keep Kc9 (ninS ne_o0_o3 nin0))
    have fc22 := (F_pageSlots_o0.keep Kc9 (ninS ne_o0_o3 nin0))
    have fc23 := (F_pages_o0.keep Kc9 (ninS ne_o0_o3 nin0))
    have fc24 := (F_pagesMade_o0.keep Kc9 (ninS ne_o0_o3 nin0))
    refine ⟨_, _, pre_18 _ ?_, hrun, hended, _, _, rfl, ?_, ⟨_, rfl⟩, hW, hsame.mono (by decide) (by decide)⟩
    · show Steps p.tables e below (T16.setTop (mkF m 101 #[va o0, vl q8, ss, va o6, vi ((q8 / (p2.toInt64)).toInt32), va o2, vi ((own_lr q8 (p2.toInt64)).toInt32)] [(.int r_16)])) _
      refine XS.ifYes X16.here hx rfl (pc0 := 101) (pc' := 124) rfl (hb hby d6_101) rfl ((if0 _ _).trans (feq hc17).2) (by decide) (by decide) ?_
      exact X16.returnOut hx hrt (hb hby d6_124) hr
    · show Q6_1 Z  o0 o1 o2 o3 o4 o5 o6 q0 p1 p2 p3 p4 p5 p7 p6 q8 h0 n0 none T16.heap _
      rw [e16]; exact ⟨q0, p7, rfl, N16, K9, fc19, fc20, fc21, fc22, fc23, fc24, V9, fc12, fc13, fc14, fc15, hU⟩
def Q6_2 (Z : State) (o0 : Addr) (o1 : Addr) (o2 : Addr) (o3 : Addr) (o4 : Addr) (o5 : Addr) (o6 : Addr) (q0 : Int64) (p1 : Int32) (p2 : Int32) (p3 : Int32) (p4 : Int32) (p5 : Int32) (p7 : Int32) (p6 : Int32) (q8 : Int64) (h0 : Heap) (n0 : Nat) (v : Option Value) (h : Heap) (L : List Loc) : Prop := ∃ (b5 : Addr), ∃ (b3_10 : Addr), ∃ (b9_10 : Addr), ∃ (b3_10_10_10 : Addr), ∃ (hv : Int64), ∃ (u : Int32), v = none ∧ Fr n0 L ∧ Keep h0 h [o0, o1] ∧ Exa Z h o0 sC0 ∧ Fld Z h o0 sC0 "held" "J" (.long hv) ∧ Fld Z h o0 sC0 "length" "I" (.int p1) ∧ Fld Z h o0 sC0 "pageSlots" "I" (.int p2) ∧ Fld Z h o0 sC0 "pages" "[Lcom/example/tributary/tributary/model/NodeHashes$Page;" (.ref o1) ∧ Fld Z h o0 sC0 "pagesMade" "I" (.int 2) ∧ PA Z h o1 p3 [(((q8 / (p2.toInt64)).toInt32), (.ref b5)), (p4, (.ref o2))] ∧ Exa Z h b5 sC2 ∧ Fld Z h b5 sC2 "hashes" "[B" (.ref b3_10) ∧ Fld Z h b5 sC2 "held" "Ljava/util/BitSet;" (.ref b9_10) ∧ BA Z h b3_10 (p2 * p1) ∧ Exa Z h b9_10 sC1 ∧ Fld Z h b9_10 sC1 "words" "[J" (.ref b3_10_10_10) ∧ Fld Z h b9_10 sC1 "wordsInUse" "I" (.int u) ∧ LA Z h b3_10_10_10 (((p2 - (1 : Int32)) >>> ((6 : Int32) &&& 31)) + (1 : Int32)) ∧ h0.size ≤ b5 ∧ h0.size ≤ b3_10 ∧ h0.size ≤ b9_10 ∧ h0.size ≤ b3_10_10_10 ∧ b5 ≠ b3_10 ∧ b5 ≠ b9_10 ∧ b5 ≠ b3_10_10_10 ∧ b3_10 ≠ b9_10 ∧ b3_10 ≠ b3_10_10_10 ∧ b9_10 ≠ b3_10_10_10 ∧ RU u (((p2 - (1 : Int32)) >>> ((6 : Int32) &&& 31)) + (1 : Int32))
theorem rm6_2 (l : Launch) (Z : State) (a0 : Array Value) (hw : HW Z a0) (ws : List Jvm.Cond) (o0 : Addr) (o1 : Addr) (o2 : Addr) (o3 : Addr) (o4 : Addr) (o5 : Addr) (o6 : Addr) (q0 : Int64) (p1 : Int32) (p2 : Int32) (p3 : Int32) (p4 : Int32) (p5 : Int32) (p7 : Int32) (p6 : Int32) (q8 : Int64) (h0 : Heap) (n0 : Nat) (O0 : Old Z n0 h0) (S : SF Z ) (E_o0 : Exa Z h0 o0 sC0) (F_held_o0 : Fld Z h0 o0 sC0 "held" "J" (.long q0)) (F_length_o0 : Fld Z h0 o0 sC0 "length" "I" (.int p1)) (F_pageSlots_o0 : Fld Z h0 o0 sC0 "pageSlots" "I" (.int p2)) (F_pages_o0 : Fld Z h0 o0 sC0 "pages" "[Lcom/example/tributary/tributary/model/NodeHashes$Page;" (.ref o1)) (F_pagesMade_o0 : Fld Z h0 o0 sC0 "pagesMade" "I" (.int 1)) (V_o1 : PA Z h0 o1 p3 [(p4, (.ref o2))]) (E_o2 : Exa Z h0 o2 sC2) (V_o3 : BA Z h0 o3 p5) (E_o4 : Exa Z h0 o4 sC1) (V_o5 : LA Z h0 o5 p6) (V_o6 : BA Z h0 o6 (64 : Int32)) (ne_o0_o1 : o0 ≠ o1) (ne_o0_o3 : o0 ≠ o3) (ne_o0_o5 : o0 ≠ o5) (ne_o0_o6 : o0 ≠ o6) (ne_o1_o3 : o1 ≠ o3) (ne_o1_o5 : o1 ≠ o5) (ne_o1_o6 : o1 ≠ o6) (g_o0 : n0 ≤ o0) (g_o1 : n0 ≤ o1) (hP : NP p1 p2) (hs : SL q8 p2 p3) (hj : ¬ (((q8 / (p2.toInt64)).toInt32) = p4)) :
    Pay l Z My6 ws prog_47_method_2_code 7 none #[(.ref o0), (.long q8), (.ref o6)] h0 ({ frames := 4, cells := 4, slots := 16137, locals := 56 } : Room) (Q6_2 Z  o0 o1 o2 o3 o4 o5 o6 q0 p1 p2 p3 p4 p5 p7 p6 q8 h0 n0) := by
  refine own_body (plainFor_of_name pn_1) (L0 := #[va o0, vl q8, ss, va o6, uu, uu, uu]) (fun _ => by first | rfl | (simp [entryFrame, mkF, argsToLocals, Value.category]; done)) ?_
  intro p e s m below meth c s₁ hrt hlk hx hby hml hZ hown0 hnm X0 e0
  have hown : s.vm.findClass sC0 = some m.cls := hown0
  have N0 := Fr.nil n0
  have K0 : Keep h0 h0 [o0, o1] := Keep.refl _ _
  obtain ⟨T1, X1, e1, st1⟩ := getF X0 hx hZ hown (host := "") (Or.inl (ww hw 22 rfl)) Via.refl e0 F_pageSlots_o0 (g := (mkF m 2 #[va o0, vl q8, ss, va o6, uu, uu, uu] [(.ref o0), (.long q8)])) rfl rfl (hb hby d6_2)
  have hc2 : ¬ ((p2.toInt64) = (0 : Int64)) := (own_p0 hP)
  obtain ⟨T3, X3, e3, st3⟩ := getF X1 hx hZ hown (host := "") (Or.inl (ww hw 29 rfl)) Via.refl e1 F_pages_o0 (g := (mkF m 11 #[va o0, vl q8, ss, va o6, vi ((q8 / (p2.toInt64)).toInt32), uu, uu] [(.ref o0)])) rfl rfl (hb hby d6_11)
  have hc4 : ¬ (((q8 / (p2.toInt64)).toInt32) = p4) := hj
  obtain ⟨T5, h5, X5, e5, E5, A5, D5, -, st5⟩ := newO X3 hx hZ hown (ww hw 27 rfl) (ww hw 45 rfl) (ww hw 46 rfl) e3 (g := (mkF m 24 #[va o0, vl q8, ss, va o6, vi ((q8 / (p2.toInt64)).toInt32), .val .null, uu] [])) rfl (hb hby d6_24) (by decide) (by decide)
  obtain ⟨b5, qs5⟩ : ∃ z, z = h0.size := ⟨_, rfl⟩
  rw [← qs5] at A5 D5 st5
  have ne_o0_b5 : o0 ≠ b5 := Nat.ne_of_lt (Nat.lt_of_lt_of_le E_o0.lt (Nat.le_of_eq qs5.symm))
  have ne_o1_b5 : o1 ≠ b5 := Nat.ne_of_lt (Nat.lt_of_lt_of_le V_o1.lt (Nat.le_of_eq qs5.symm))
  have ne_o2_b5 : o2 ≠ b5 := Nat.ne_of_lt (Nat.lt_of_lt_of_le E_o2.lt (Nat.le_of_eq qs5.symm))
  have ne_o3_b5 : o3 ≠ b5 := Nat.ne_of_lt (Nat.lt_of_lt_of_le V_o3.lt (Nat.le_of_eq qs5.symm))
  have ne_o4_b5 : o4 ≠ b5 := Nat.ne_of_lt (Nat.lt_of_lt_of_le E_o4.lt (Nat.le_of_eq qs5.symm))
  have ne_o5_b5 : o5 ≠ b5 := Nat.ne_of_lt (Nat.lt_of_lt_of_le V_o5.lt (Nat.le_of_eq qs5.symm))
  have ne_o6_b5 : o6 ≠ b5 := Nat.ne_of_lt (Nat.lt_of_lt_of_le V_o6.lt (Nat.le_of_eq qs5.symm))
  have g_b5 : n0 ≤ b5 := Nat.le_trans (own_old O0) (Nat.le_of_eq qs5.symm)
  have sz_b5 : h0.size ≤ b5 := Nat.le_trans K0.1 (Nat.le_of_eq qs5.symm)
  have O5 := O0.ext E5
  have K5 : Keep h0 h5 [o0, o1] := K0.ext E5
  have F_hashes_b5 : Fld Z h5 b5 sC2 "hashes" "[B" .null := D5 (Or.inr (ww hw 52 rfl)) (ty := (.array .byte)) (by decide)
  have F_held_b5 : Fld Z h5 b5 sC2 "held" "Ljava/util/BitSet;" .null := D5 (Or.inr (ww hw 76 rfl)) (ty := (.object sC1)) (by decide)
  have fc6 := (F_length_o0.ext E5)
  obtain ⟨T7, X7, e7, st7⟩ := getF X5 hx hZ hown (host := "") (Or.inl (ww hw 15 rfl)) Via.refl e5 fc6 (g := (mkF m 29 #[va o0, vl q8, ss, va o6, vi ((q8 / (p2.toInt64)).toInt32), .val .null, uu] [(.ref o0), (.ref b5), (.ref b5)])) rfl rfl (hb hby d6_29)
  have fc8 := (F_pageSlots_o0.ext E5)
  obtain ⟨T9, X9, e9, st9⟩ := getF X7 hx hZ hown (host := "") (Or.inl (ww hw 22 rfl)) Via.refl e7 fc8 (g := (mkF m 33 #[va o0, vl q8, ss, va o6, vi ((q8 / (p2.toInt64)).toInt32), .val .null, uu] [(.ref o0), (.int p1), (.ref b5), (.ref b5)])) rfl rfl (hb hby d6_33)
  obtain ⟨_, _, ⟨T10, L10, k10, n10⟩, -, X10, ⟨Lc10, hQ10, l10, y10, z10⟩, st10⟩ := own_specialRef X9 hx hZ (y := (⟨sC2, "<init>", "(II)V"⟩ : MethodName)) rfl hown (ww hw 47 rfl) (mvT hZ (ww hw 48 rfl)) (mvT hZ (ww hw 49 rfl)) (by decide) (backOf (W := 1) (rm7_0 l Z a0 hw []  b5 p1 p2 h5 n0 O5 S A5 F_hashes_b5 F_held_b5 g_b5 (own_pB hP) (own_pn hP) (own_pc hP)) hZ (ww hw 49 rfl) (ww hw 46 rfl) (by decide) (by decide)) (g := (mkF m 36 #[va o0, vl q8, ss, va o6, vi ((q8 / (p2.toInt64)).toInt32), .val .null, uu] [(.int p2), (.int p1), (.ref b5), (.ref b5)])) rfl (by rw [hml]; rfl) (Steps.refl _) (a := b5) (argsL := [(.int p1), (.int p2)]) (rest := [(.ref b5)]) (lenOf pd_6 rfl) rfl (by show 2 * 0 + _ ≤ _; exact Nat.le_of_eq rfl) (hb hby d6_36) (fun _ _ => ⟨rfl, e9, (by decide : 1 + 3 ≤ _), (by decide : 2 + 16135 ≤ _)⟩)
  dsimp only [Pt.U, Pt.locs, Pt.cells, Pt.slots] at X10 l10 y10 z10 st10 hQ10
  subst l10 y10 z10
  have fc11 := (E_o0.ext E5)
  have fc12 := (V_o1.ext E5)
  have fc13 := (E_o2.ext E5)
  have fc14 := (V_o3.ext E5)
  have fc15 := (E_o4.ext E5)
  have fc16 := (V_o5.ext E5)
  have fc17 := (V_o6.ext E5)
  obtain ⟨b3_10, b9_10, b3_10_10_10, rfl, Nq10, Kc10, P0_10, P1_10, P2_10, P3_10, P4_10, P5_10, P6_10, P7_10, P8_10, P9_10, P10_10, P11_10, P12_10, P13_10⟩ := hQ10
  have N10 := Fr.app N0 Nq10
  have ne_o0_b3_10 : o0 ≠ b3_10 := Nat.ne_of_lt (Nat.lt_of_lt_of_le fc11.lt P8_10)
  have ne_o1_b3_10 : o1 ≠ b3_10 := Nat.ne_of_lt (Nat.lt_of_lt_of_le fc12.lt P8_10)
  have ne_o2_b3_10 : o2 ≠ b3_10 := Nat.ne_of_lt (Nat.lt_of_lt_of_le fc13.lt P8_10)
  have ne_o3_b3_10 : o3 ≠ b3_10 := Nat.ne_of_lt (Nat.lt_of_lt_of_le fc14.lt P8_10)
  have ne_o4_b3_10 : o4 ≠ b3_10 := Nat.ne_of_lt (Nat.lt_of_lt_of_le fc15.lt P8_10)
  have ne_o5_b3_10 : o5 ≠ b3_10 := Nat.ne_of_lt (Nat.lt_of_lt_of_le fc16.lt P8_10)
  have ne_o6_b3_10 : o6 ≠ b3_10 := Nat.ne_of_lt (Nat.lt_of_lt_of_le fc17.lt P8_10)
  have ne_b5_b3_10 : b5 ≠ b3_10 := Nat.ne_of_lt (Nat.lt_of_lt_of_le A5.lt P8_10)
  have ne_o0_b9_10 : o0 ≠ b9_10 := Nat.ne_of_lt (Nat.lt_of_lt_of_le fc11.lt P9_10)
  have ne_o1_b9_10 : o1 ≠ b9_10 := Nat.ne_of_lt (Nat.lt_of_lt_of_le fc12.lt P9_10)
  have ne_o2_b9_10 : o2 ≠ b9_10 := Nat.ne_of_lt (Nat.lt_of_lt_of_le fc13.lt P9_10)
  have ne_o3_b9_10 : o3 ≠ b9_10 := Nat.ne_of_lt (Nat.lt_of_lt_of_le fc14.lt P9_10)
  have ne_o4_b9_10 : o4 ≠ b9_10 := Nat.ne_of_lt (Nat.lt_of_lt_of_le fc15.lt P9_10)
  have ne_o5_b9_10 : o5 ≠ b9_10 := Nat.ne_of_lt (Nat.lt_of_lt_of_le fc16.lt P9_10)
  have ne_o6_b9_10 : o6 ≠ b9_10 := Nat.ne_of_lt (Nat.lt_of_lt_of_le fc17.lt P9_10)
  have ne_b5_b9_10 : b5 ≠ b9_10 := Nat.ne_of_lt (Nat.lt_of_lt_of_le A5.lt P9_10)
  have ne_o0_b3_10_10_10 : o0 ≠ b3_10_10_10 := Nat.ne_of_lt (Nat.lt_of_lt_of_le fc11.lt P10_10)
  have ne_o1_b3_10_10_10 : o1 ≠ b3_10_10_10 := Nat.ne_of_lt (Nat.lt_of_lt_of_le fc12.lt P10_10)
  have ne_o2_b3_10_10_10 : o2 ≠ b3_10_10_10 := Nat.ne_of_lt (Nat.lt_of_lt_of_le fc13.lt P10_10)
  have ne_o3_b3_10_10_10 : o3 ≠ b3_10_10_10 := Nat.ne_of_lt (Nat.lt_of_lt_of_le fc14.lt P10_10)
  have ne_o4_b3_10_10_10 : o4 ≠ b3_10_10_10 := Nat.ne_of_lt (Nat.lt_of_lt_of_le fc15.lt P10_10)
  have ne_o5_b3_10_10_10 : o5 ≠ b3_10_10_10 := Nat.ne_of_lt (Nat.lt_of_lt_of_le fc16.lt P10_10)
  have ne_o6_b3_10_10_10 : o6 ≠ b3_10_10_10 := Nat.ne_of_lt (Nat.lt_of_lt_of_le fc17.lt P10_10)
  have ne_b5_b3_10_10_10 : b5 ≠ b3_10_10_10 := Nat.ne_of_lt (Nat.lt_of_lt_of_le A5.lt P10_10)
  have g_b3_10 : n0 ≤ b3_10 := Nat.le_trans (own_old O5) P8_10
  have sz_b3_10 : h0.size ≤ b3_10 := Nat.le_trans K5.1 P8_10
  have g_b9_10 : n0 ≤ b9_10 := Nat.le_trans (own_old O5) P9_10
  have sz_b9_10 : h0.size ≤ b9_10 := Nat.le_trans K5.1 P9_10
  have g_b3_10_10_10 : n0 ≤ b3_10_10_10 := Nat.le_trans (own_old O5) P10_10
  have sz_b3_10_10_10 : h0.size ≤ b3_10_10_10 := Nat.le_trans K5.1 P10_10
  have O10 := O5.keep Kc10 (allS g_b5 all0)
  have K10 : Keep h0 T10.heap [o0, o1] := K5.trans Kc10 (allS (Or.inr sz_b5) all0)
  have fc18 := ((F_pages_o0.ext E5).keep Kc10 (ninS ne_o0_b5 nin0))
  obtain ⟨T19, X19, e19, st19⟩ := getF X10 hx hZ hown (host := "") (Or.inl (ww hw 29 rfl)) Via.refl rfl fc18 (g := (mkF m 42 #[va o0, vl q8, ss, va o6, vi ((q8 / (p2.toInt64)).toInt32), va b5, uu] [(.ref o0)])) rfl rfl (hb hby d6_42)
  have fc20 := (fc12.keep Kc10 (ninS ne_o1_b5 nin0))
  obtain ⟨T21, h21, X21, e21, W21, V21, st21⟩ := own_aastore X19 hx hZ e19 fc20 (own_pj hP hs) P0_10 (g := (mkF m 49 #[va o0, vl q8, ss, va o6, vi ((q8 / (p2.toInt64)).toInt32), va b5, uu] [(.ref b5), (.int ((q8 / (p2.toInt64)).toInt32)), (.ref o1)])) rfl rfl (hb hby d6_49)
  have O21 := O10.wr W21 g_o1
  have K21 : Keep h0 h21 [o0, o1] := K10.wr W21 (Or.inl (List.mem_of_getElem? (i := 1) rfl))
  have N21 := Fr.snoc X21 N10 g_o1
  have fc22 := (((F_pagesMade_o0.ext E5).keep Kc10 (ninS ne_o0_b5 nin0)).other W21 (Or.inl ne_o0_o1))
  obtain ⟨T23, X23, e23, st23⟩ := getF X21 hx hZ hown (host := "") (Or.inl (ww hw 37 rfl)) Via.refl e21 fc22 (g := (mkF m 52 #[va o0, vl q8, ss, va o6, vi ((q8 / (p2.toInt64)).toInt32), va b5, uu] [(.ref o0), (.ref o0)])) rfl rfl (hb hby d6_52)
  have fc24 := ((fc11.keep Kc10).wr W21)
  obtain ⟨T25, h25, X25, e25, W25, st25⟩ := putF X23 hx hZ hown (host := "") (Or.inl (ww hw 37 rfl)) Via.refl e23 fc22 fc24 (Or.inl (ww hw 38 rfl)) (ww hw 7 rfl) (ty := .int) (by decide) rfl rfl (g := (mkF m 57 #[va o0, vl q8, ss, va o6, vi ((q8 / (p2.toInt64)).toInt32), va b5, uu] [(.int 2), (.ref o0)])) rfl rfl (hb hby d6_57)
  have Fw25 := fc22.same W25
  have O25 := O21.wr W25 g_o0
  have K25 : Keep h0 h25 [o0, o1] := K21.wr W25 (Or.inl (List.mem_of_getElem? (i := 0) rfl))
  have N25 := Fr.snoc X25 N21 g_o0
  have fc26 := (((fc8.keep Kc10 (ninS ne_o0_b5 nin0)).other W21 (Or.inl ne_o0_o1)).other W25 (Or.inr (slot_ne (Or.inr (ww hw 23 rfl)) (Or.inl (ww hw 38 rfl)) (by decide) (t := .int) (t' := .int) (by decide) (by decide))))
  obtain ⟨T27, X27, e27, st27⟩ := getF X25 hx hZ hown (host := "") (Or.inl (ww hw 22 rfl)) Via.refl e25 fc26 (g := (mkF m 62 #[va o0, vl q8, ss, va o6, vi ((q8 / (p2.toInt64)).toInt32), va b5, uu] [(.ref o0), (.long q8)])) rfl rfl (hb hby d6_62)
  have fc28 := ((P1_10.other W21 (Or.inl (Ne.symm ne_o1_b5))).other W25 (Or.inl (Ne.symm ne_o0_b5)))
  have st29 := own_getR X27 hx hZ hown (ww hw 78 rfl) e27 fc28 (g := (mkF m 74 #[va o0, vl q8, ss, va o6, vi ((q8 / (p2.toInt64)).toInt32), va b5, vi ((own_lr q8 (p2.toInt64)).toInt32)] [(.ref b5), (.int 0), (.ref o6)])) rfl rfl (hb hby d6_74)
  have fc30 := (((fc6.keep Kc10 (ninS ne_o0_b5 nin0)).other W21 (Or.inl ne_o0_o1)).other W25 (Or.inr (slot_ne (Or.inr (ww hw 16 rfl)) (Or.inl (ww hw 38 rfl)) (by decide) (t := .int) (t' := .int) (by decide) (by decide))))
  obtain ⟨T31, X31, e31, st31⟩ := getF X27 hx hZ hown (host := "") (Or.inl (ww hw 15 rfl)) Via.refl e27 fc30 (g := (mkF m 80 #[va o0, vl q8, ss, va o6, vi ((q8 / (p2.toInt64)).toInt32), va b5, vi ((own_lr q8 (p2.toInt64)).toInt32)] [(.ref o0), (.int ((own_lr q8 (p2.toInt64)).toInt32)), (.ref b3_10), (.int 0), (.ref o6)])) rfl rfl (hb hby d6_80)
  obtain ⟨T32, X32, e32, st32⟩ := getF X31 hx hZ hown (host := "") (Or.inl (ww hw 15 rfl)) Via.refl e31 fc30 (g := (mkF m 85 #[va o0, vl q8, ss, va o6, vi ((q8 / (p2.toInt64)).toInt32), va b5, vi ((own_lr q8 (p2.toInt64)).toInt32)] [(.ref o0), (.int (((own_lr q8 (p2.toInt64)).toInt32) * p1)), (.ref b3_10), (.int 0), (.ref o6)])) rfl rfl (hb hby d6_85)
  have fc34 := (((fc17.keep Kc10 (ninS ne_o6_b5 nin0)).other W21 (Ne.symm ne_o1_o6)).other W25 (Ne.symm ne_o0_o6))
  have fc35 := ((P3_10.other W21 (Ne.symm ne_o1_b3_10)).other W25 (Ne.symm ne_o0_b3_10))
  have cp33 : cpOK (((own_lr q8 (p2.toInt64)).toInt32) * p1) p1 (p2 * p1) := (own_pcp hP hs)
  obtain ⟨T33, h33, L33, X33, e33, N33, Kc33, V33, st33⟩ := own_cpB X32 hx hZ hown (ww hw 79 rfl) (ww hw 82 rfl) (ww hw 80 rfl) (ww hw 81 rfl) e32 fc34 fc35 (sp := (0 : Int32)) (dp := (((own_lr q8 (p2.toInt64)).toInt32) * p1)) (nn := p1) (by decide) cp33.1 cp33.2.1 cp33.2.2.1 cp33.2.2.2 N25 g_b3_10 (g := (mkF m 88 #[va o0, vl q8, ss, va o6, vi ((q8 / (p2.toInt64)).toInt32), va b5, vi ((own_lr q8 (p2.toInt64)).toInt32)] [(.int p1), (.int (((own_lr q8 (p2.toInt64)).toInt32) * p1)), (.ref b3_10), (.int 0), (.ref o6)])) rfl (by rw [hml]; rfl) (rest := []) rfl (hb hby d6_88) (by decide) (W := 0) (by show 2 * 0 + _ ≤ _; exact Nat.le_of_eq rfl) (by decide)
  have O33 := O25.keep Kc33 (allS g_b3_10 all0)
  have K33 : Keep h0 h33 [o0, o1] := K25.trans Kc33 (allS (Or.inr sz_b3_10) all0)
  have fc36 := (((P2_10.other W21 (Or.inl (Ne.symm ne_o1_b5))).other W25 (Or.inl (Ne.symm ne_o0_b5))).keep Kc33 (ninS ne_b5_b3_10 nin0))
  have st37 := own_getR X33 hx hZ hown (ww hw 83 rfl) e33 fc36 (g := (mkF m 93 #[va o0, vl q8, ss, va o6, vi ((q8 / (p2.toInt64)).toInt32), va b5, vi ((own_lr q8 (p2.toInt64)).toInt32)] [(.ref b5)])) rfl rfl (hb hby d6_93)
  have fc38 := (((P4_10.wr W21).wr W25).keep Kc33)
  have fc39 := (((P5_10.other W21 (Or.inl (Ne.symm ne_o1_b9_10))).other W25 (Or.inl (Ne.symm ne_o0_b9_10))).keep Kc33 (ninS (Ne.symm P11_10) nin0))
  have fc40 := (((P6_10.other W21 (Or.inl (Ne.symm ne_o1_b9_10))).other W25 (Or.inl (Ne.symm ne_o0_b9_10))).keep Kc33 (ninS (Ne.symm P11_10) nin0))
  have fc41 := (((P7_10.other W21 (Ne.symm ne_o1_b3_10_10_10)).other W25 (Ne.symm ne_o0_b3_10_10_10)).keep Kc33 (ninS (Ne.symm P12_10) nin0))
  obtain ⟨cq42, kq42, q42a, q42b, q42c⟩ := isOf hZ e33 fc38
  obtain ⟨_, _, ⟨T42, L42, k42, n42⟩, -, X42, ⟨Lc42, hQ42, l42, y42, z42⟩, st42⟩ := X33.virtualBack hx (y := My11) (z := My11) hown (mvT hZ (ww hw 84 rfl)) (mvT hZ (ww hw 85 rfl)) (notFace_of_selects (args := #[]) (mvT hZ (ww hw 87 rfl))) (mvT hZ (ww hw 87 rfl)) (mvT hZ (ww hw 86 rfl)) (by decide) (backOf (W := 0) (rm11_0 l Z a0 hw []  b9_10 b3_10_10_10 (0 : Int32) (((p2 - (1 : Int32)) >>> ((6 : Int32) &&& 31)) + (1 : Int32)) ((own_lr q8 (p2.toInt64)).toInt32) h33 n0 O33 S fc38 fc39 fc40 fc41 (own_ru0 (own_pN hP)) (own_pk hP hs).1) hZ (ww hw 88 rfl) (ww hw 55 rfl) (by decide) (by decide)) q42a q42c (g := (mkF m 98 #[va o0, vl q8, ss, va o6, vi ((q8 / (p2.toInt64)).toInt32), va b5, vi ((own_lr q8 (p2.toInt64)).toInt32)] [(.int ((own_lr q8 (p2.toInt64)).toInt32)), (.ref b9_10)])) rfl (by rw [hml]; rfl) (Steps.refl _) (argsL := [(.int ((own_lr q8 (p2.toInt64)).toInt32))]) (rest := []) (lenOf pd_8 rfl) rfl (by show 2 * 0 + _ ≤ _; exact Nat.le_of_eq rfl) (hb hby d6_98) (fun _ _ => ⟨rfl, e33, (by decide : 4 + 0 ≤ _), (by decide : 16137 + 0 ≤ _)⟩)
  dsimp only [Pt.U, Pt.locs, Pt.cells, Pt.slots] at X42 l42 y42 z42 st42 hQ42
  subst l42 y42 z42
  obtain ⟨r_42, rfl, Nq42, e42⟩ := hQ42
  have N42 := Fr.app N33 Nq42
  have pre_44 : ∀ t, Steps p.tables e below (T42.setTop (mkF m 101 #[va o0, vl q8, ss, va o6, vi ((q8 / (p2.toInt64)).toInt32), va b5, vi ((own_lr q8 (p2.toInt64)).toInt32)] [(.int r_42)])) t → Steps p.tables e below (s₁.setTop (mkF m 0 #[va o0, vl q8, ss, va o6, uu, uu, uu] [])) t := fun t k => (by
    show Steps p.tables e below (s₁.setTop (mkF m 0 #[va o0, vl q8, ss, va o6, uu, uu, uu] [])) _
    refine XS.lloadN X0.here hx rfl (hb hby d6_0) rfl ?_
    refine XS.aloadN X0.here hx rfl (hb hby d6_1) rfl rfl ?_
    refine st1 _ ?_
    refine XS.i2l X1.here hx rfl (hb hby d6_5) rfl ?_
    refine XS.ldiv X1.here hx rfl (hb hby d6_6) rfl hc2 ?_
    refine XS.l2i X1.here hx rfl (hb hby d6_7) rfl ?_
    refine XS.istore X1.here hx rfl (hb hby d6_8) rfl (l' := #[va o0, vl q8, ss, va o6, vi ((q8 / (p2.toInt64)).toInt32), uu, uu]) rfl ?_
    refine XS.aloadN X1.here hx rfl (hb hby d6_10) rfl rfl ?_
    show Steps p.tables e below (T1.setTop (mkF m 11 #[va o0, vl q8, ss, va o6, vi ((q8 / (p2.toInt64)).toInt32), uu, uu] [(.ref o0)])) _
    refine st3 _ ?_
    refine XS.iload X3.here hx rfl (hb hby d6_14) rfl ?_
    refine own_aaload X3 hx hZ e3 V_o1 (own_pj hP hs) (v := .null) (getH_miss (own_pj hP hs).1 hc4 rfl) (g := (mkF m 16 #[va o0, vl q8, ss, va o6, vi ((q8 / (p2.toInt64)).toInt32), uu, uu] [(.int ((q8 / (p2.toInt64)).toInt32)), (.ref o1)])) rfl rfl (hb hby d6_16) _ ?_
    refine XS.astore X3.here hx rfl (hb hby d6_17) rfl rfl (l' := #[va o0, vl q8, ss, va o6, vi ((q8 / (p2.toInt64)).toInt32), .val .null, uu]) rfl ?_
    refine XS.aload X3.here hx rfl (hb hby d6_19) rfl rfl ?_
    refine XS.ifnonnullNo X3.here hx rfl (hb hby d6_21) rfl ?_
    refine st5 _ ?_
    refine XS.dup X5.here hx rfl (hb hby d6_27) rfl rfl ?_
    show Steps p.tables e below (T5.setTop (mkF m 28 #[va o0, vl q8, ss, va o6, vi ((q8 / (p2.toInt64)).toInt32), .val .null, uu] [(.ref b5), (.ref b5)])) _
    refine XS.aloadN X5.here hx rfl (hb hby d6_28) rfl rfl ?_
    refine st7 _ ?_
    refine XS.aloadN X7.here hx rfl (hb hby d6_32) rfl rfl ?_
    refine st9 _ ?_
    refine st10.trans ?_
    refine XS.astore X10.here hx rfl (hb hby d6_39) rfl rfl (l' := #[va o0, vl q8, ss, va o6, vi ((q8 / (p2.toInt64)).toInt32), va b5, uu]) rfl ?_
    refine XS.aloadN X10.here hx rfl (hb hby d6_41) rfl rfl ?_
    refine st19 _ ?_
    show Steps p.tables e below (T19.setTop (mkF m 45 #[va o0, vl q8, ss, va o6, vi ((q8 / (p2.toInt64)).toInt32), va b5, uu] [(.ref o1)])) _
    refine XS.iload X19.here hx rfl (hb hby d6_45) rfl ?_
    refine XS.aload X19.here hx rfl (hb hby d6_47) rfl rfl ?_
    refine st21 _ ?_
    refine XS.aloadN X21.here hx rfl (hb hby d6_50) rfl rfl ?_
    refine XS.dup X21.here hx rfl (hb hby d6_51) rfl rfl ?_
    refine st23 _ ?_
    refine XS.iconst X23.here hx rfl (hb hby d6_55) ?_
    refine XS.iadd X23.here hx rfl (hb hby d6_56) rfl ?_
    show Steps p.tables e below (T23.setTop (mkF m 57 #[va o0, vl q8, ss, va o6, vi ((q8 / (p2.toInt64)).toInt32), va b5, uu] [(.int ((1 : Int32) + (1 : Int32))), (.ref o0)])) _
    rw [show (((1 : Int32) + (1 : Int32)) : Int32) = (2 : Int32) from by decide]
    refine st25 _ ?_
    refine XS.lloadN X25.here hx rfl (hb hby d6_60) rfl ?_
    refine XS.aloadN X25.here hx rfl (hb hby d6_61) rfl rfl ?_
    refine st27 _ ?_
    refine XS.i2l X27.here hx rfl (hb hby d6_65) rfl ?_
    refine XS.lrem X27.here hx rfl (hb hby d6_66) rfl hc2 ?_
    refine XS.l2i X27.here hx rfl (hb hby d6_67) rfl ?_
    show Steps p.tables e below (T27.setTop (mkF m 68 #[va o0, vl q8, ss, va o6, vi ((q8 / (p2.toInt64)).toInt32), va b5, uu] [(.int ((own_lr q8 (p2.toInt64)).toInt32))])) _
    refine XS.istore X27.here hx rfl (hb hby d6_68) rfl (l' := #[va o0, vl q8, ss, va o6, vi ((q8 / (p2.toInt64)).toInt32), va b5, vi ((own_lr q8 (p2.toInt64)).toInt32)]) rfl ?_
    refine XS.aloadN X27.here hx rfl (hb hby d6_70) rfl rfl ?_
    refine XS.iconst X27.here hx rfl (hb hby d6_71) ?_
    refine XS.aload X27.here hx rfl (hb hby d6_72) rfl rfl ?_
    refine st29 _ ?_
    refine XS.iload X27.here hx rfl (hb hby d6_77) rfl ?_
    refine XS.aloadN X27.here hx rfl (hb hby d6_79) rfl rfl ?_
    refine st31 _ ?_
    show Steps p.tables e below (T31.setTop (mkF m 83 #[va o0, vl q8, ss, va o6, vi ((q8 / (p2.toInt64)).toInt32), va b5, vi ((own_lr q8 (p2.toInt64)).toInt32)] [(.int p1), (.int ((own_lr q8 (p2.toInt64)).toInt32)), (.ref b3_10), (.int 0), (.ref o6)])) _
    refine XS.imul X31.here hx rfl (hb hby d6_83) rfl ?_
    refine XS.aloadN X31.here hx rfl (hb hby d6_84) rfl rfl ?_
    refine st32 _ ?_
    refine st33 _ ?_
    refine XS.aload X33.here hx rfl (hb hby d6_91) rfl rfl ?_
    refine st37 _ ?_
    refine XS.iload X33.here hx rfl (hb hby d6_96) rfl ?_
    refine st42.trans ?_
    exact k)
  by_cases hc43 : r_42 = (0 : Int32)
  · have st45 := own_getR X42 hx hZ hown (ww hw 83 rfl) e42 fc36 (g := (mkF m 106 #[va o0, vl q8, ss, va o6, vi ((q8 / (p2.toInt64)).toInt32), va b5, vi ((own_lr q8 (p2.toInt64)).toInt32)] [(.ref b5)])) rfl rfl (hb hby d6_106)
    obtain ⟨cq46, kq46, q46a, q46b, q46c⟩ := isOf hZ e42 fc38
    obtain ⟨_, _, ⟨T46, L46, k46, n46⟩, -, X46, ⟨Lc46, hQ46, l46, y46, z46⟩, st46⟩ := X42.virtualBack hx (y := My13) (z := My13) hown (mvT hZ (ww hw 95 rfl)) (mvT hZ (ww hw 96 rfl)) (notFace_of_selects (args := #[]) (mvT hZ (ww hw 98 rfl))) (mvT hZ (ww hw 98 rfl)) (mvT hZ (ww hw 97 rfl)) (by decide) (backOf (W := 0) (rm13_0 l Z a0 hw []  b9_10 b3_10_10_10 (0 : Int32) (((p2 - (1 : Int32)) >>> ((6 : Int32) &&& 31)) + (1 : Int32)) ((own_lr q8 (p2.toInt64)).toInt32) h33 n0 O33 S fc38 fc39 fc40 fc41 P13_10 g_b9_10 g_b3_10_10_10 (own_ru0 (own_pN hP)) (own_pN hP) (own_pix hP hs)) hZ (ww hw 99 rfl) (ww hw 55 rfl) (by decide) (by decide)) q46a q46c (g := (mkF m 111 #[va o0, vl q8, ss, va o6, vi ((q8 / (p2.toInt64)).toInt32), va b5, vi ((own_lr q8 (p2.toInt64)).toInt32)] [(.int ((own_lr q8 (p2.toInt64)).toInt32)), (.ref b9_10)])) rfl (by rw [hml]; rfl) (Steps.refl _) (argsL := [(.int ((own_lr q8 (p2.toInt64)).toInt32))]) (rest := []) (lenOf pd_5 rfl) rfl (by show 2 * 0 + _ ≤ _; exact Nat.le_of_eq rfl) (hb hby d6_111) (fun _ _ => ⟨rfl, e42, (by decide : 4 + 0 ≤ _), (by decide : 16137 + 0 ≤ _)⟩)
    dsimp only [Pt.U, Pt.locs, Pt.cells, Pt.slots] at X46 l46 y46 z46 st46 hQ46
    subst l46 y46 z46
    have fc47 := ((fc24.wr W25).keep Kc33)
    have fc48 := ((V21.other W25 (Ne.symm ne_o0_o1)).keep Kc33 (ninS ne_o1_b3_10 nin0))
    have fc49 := ((((fc13.keep Kc10).wr W21).wr W25).keep Kc33)
    have fc50 := ((((fc14.keep Kc10 (ninS ne_o3_b5 nin0)).other W21 (Ne.symm ne_o1_o3)).other W25 (Ne.symm ne_o0_o3)).keep Kc33 (ninS ne_o3_b3_10 nin0))
    have fc51 := ((((fc15.keep Kc10).wr W21).wr W25).keep Kc33)
    have fc52 := ((((fc16.keep Kc10 (ninS ne_o5_b5 nin0)).other W21 (Ne.symm ne_o1_o5)).other W25 (Ne.symm ne_o0_o5)).keep Kc33 (ninS ne_o5_b3_10 nin0))
    have fc53 := (fc34.keep Kc33 (ninS ne_o6_b3_10 nin0))
    have fc54 := (((P0_10.wr W21).wr W25).keep Kc33)
    obtain ⟨u_46, rfl, Nq46, Kc46, P0_46, P1_46, P2_46, P3_46, np0_46⟩ := hQ46
    have N46 := Fr.app N42 Nq46
    have O46 := O33.keep Kc46 (allS g_b9_10 (allS g_b3_10_10_10 all0))
    have K46 : Keep h0 T46.heap [o0, o1] := K33.trans Kc46 (allS (Or.inr sz_b9_10) (allS (Or.inr sz_b3_10_10_10) all0))
    have fc55 := ((((((F_held_o0.ext E5).keep Kc10 (ninS ne_o0_b5 nin0)).other W21 (Or.inl ne_o0_o1)).other W25 (Or.inr (slot_ne (Or.inl (ww hw 111 rfl)) (Or.inl (ww hw 38 rfl)) (by decide) (t := .long) (t' := .int) (by decide) (by decide)))).keep Kc33 (ninS ne_o0_b3_10 nin0)).keep Kc46 (ninS ne_o0_b9_10 (ninS ne_o0_b3_10_10_10 nin0)))
    obtain ⟨T56, X56, e56, st56⟩ := getF X46 hx hZ hown (host := "") (Or.inl (ww hw 110 rfl)) Via.refl rfl fc55 (g := (mkF m 116 #[va o0, vl q8, ss, va o6, vi ((q8 / (p2.toInt64)).toInt32), va b5, vi ((own_lr q8 (p2.toInt64)).toInt32)] [(.ref o0), (.ref o0)])) rfl rfl (hb hby d6_116)
    have fc57 := (fc47.keep Kc46)
    obtain ⟨T58, h58, X58, e58, W58, st58⟩ := putF X56 hx hZ hown (host := "") (Or.inl (ww hw 110 rfl)) Via.refl e56 fc55 fc57 (Or.inl (ww hw 111 rfl)) (ww hw 7 rfl) (ty := .long) (by decide) rfl rfl (g := (mkF m 121 #[va o0, vl q8, ss, va o6, vi ((q8 / (p2.toInt64)).toInt32), va b5, vi ((own_lr q8 (p2.toInt64)).toInt32)] [(.long (q0 + (1 : Int64))), (.ref o0)])) rfl rfl (hb hby d6_121)
    have Fw58 := fc55.same W58
    have O58 := O46.wr W58 g_o0
    have K58 : Keep h0 h58 [o0, o1] := K46.wr W58 (Or.inl (List.mem_of_getElem? (i := 0) rfl))
    have N58 := Fr.snoc X58 N46 g_o0
    obtain ⟨fs, hr, hrun, hended, hW, hsame⟩ := X58.leave (v := none) (fun _ => rfl) hlk
    have fc59 := (fc57.wr W58)
    have fc60 := (((fc30.keep Kc33 (ninS ne_o0_b3_10 nin0)).keep Kc46 (ninS ne_o0_b9_10 (ninS ne_o0_b3_10_10_10 nin0))).other W58 (Or.inr (slot_ne (Or.inr (ww hw 16 rfl)) (Or.inl (ww hw 111 rfl)) (by decide) (t := .int) (t' := .long) (by decide) (by decide))))
    have fc61 := (((fc26.keep Kc33 (ninS ne_o0_b3_10 nin0)).keep Kc46 (ninS ne_o0_b9_10 (ninS ne_o0_b3_10_10_10 nin0))).other W58 (Or.inr (slot_ne (Or.inr (ww hw 23 rfl)) (Or.inl (ww hw 111 rfl)) (by decide) (t := .int) (t' := .long) (by decide) (by decide))))
    have fc62 := (((((fc18.other W21 (Or.inl ne_o0_o1)).other W25 (Or.inr (slot_ne (Or.inr (ww hw 30 rfl)) (Or.inl (ww hw 38 rfl)) (by decide) (t := (.array (.object sC2))) (t' := .int) (by decide) (by decide)))).keep Kc33 (ninS ne_o0_b3_10 nin0)).keep Kc46 (ninS ne_o0_b9_10 (ninS ne_o0_b3_10_10_10 nin0))).other W58 (Or.inr (slot_ne (Or.inr (ww hw 30 rfl)) (Or.inl (ww hw 111 rfl)) (by decide) (t := (.array (.object sC2))) (t' := .long) (by decide) (by decide))))
    have fc63 := (((Fw25.keep Kc33 (ninS ne_o0_b3_10 nin0)).keep Kc46 (ninS ne_o0_b9_10 (ninS ne_o0_b3_10_10_10 nin0))).other W58 (Or.inr (slot_ne (Or.inl (ww hw 38 rfl)) (Or.inl (ww hw 111 rfl)) (by decide) (t := .int) (t' := .long) (by decide) (by decide))))
    have fc64 := ((fc48.keep Kc46 (ninS ne_o1_b9_10 (ninS ne_o1_b3_10_10_10 nin0))).other W58 (Ne.symm ne_o0_o1))
    have fc65 := ((fc54.keep Kc46).wr W58)
    have fc66 := (((fc28.keep Kc33 (ninS ne_b5_b3_10 nin0)).keep Kc46 (ninS ne_b5_b9_10 (ninS ne_b5_b3_10_10_10 nin0))).other W58 (Or.inl (Ne.symm ne_o0_b5)))
    have fc67 := ((fc36.keep Kc46 (ninS ne_b5_b9_10 (ninS ne_b5_b3_10_10_10 nin0))).other W58 (Or.inl (Ne.symm ne_o0_b5)))
    have fc68 := ((V33.keep Kc46 (ninS P11_10 (ninS P12_10 nin0))).other W58 (Ne.symm ne_o0_b3_10))
    have fc69 := (P0_46.wr W58)
    have fc70 := (P1_46.other W58 (Or.inl (Ne.symm ne_o0_b9_10)))
    have fc71 := (P2_46.other W58 (Or.inl (Ne.symm ne_o0_b9_10)))
    have fc72 := (P3_46.other W58 (Ne.symm ne_o0_b3_10_10_10))
    refine ⟨_, _, pre_44 _ ?_, hrun, hended, _, _, rfl, ?_, ⟨_, rfl⟩, hW, hsame.mono (by decide) (by decide)⟩
    · show Steps p.tables e below (T42.setTop (mkF m 101 #[va o0, vl q8, ss, va o6, vi ((q8 / (p2.toInt64)).toInt32), va b5, vi ((own_lr q8 (p2.toInt64)).toInt32)] [(.int r_42)])) _
      refine XS.ifNo X42.here hx rfl (hb hby d6_101) rfl ((if0 _ _).trans (teq hc43).2) ?_
      refine XS.aload X42.here hx rfl (hb hby d6_104) rfl rfl ?_
      refine st45 _ ?_
      refine XS.iload X42.here hx rfl (hb hby d6_109) rfl ?_
      refine st46.trans ?_
      refine XS.aloadN X46.here hx rfl (hb hby d6_114) rfl rfl ?_
      refine XS.dup X46.here hx rfl (hb hby d6_115) rfl rfl ?_
      refine st56 _ ?_
      show Steps p.tables e below (T56.setTop (mkF m 119 #[va o0, vl q8, ss, va o6, vi ((q8 / (p2.toInt64)).toInt32), va b5, vi ((own_lr q8 (p2.toInt64)).toInt32)] [(.long q0), (.ref o0)])) _
      refine XS.lconst X56.here hx rfl (hb hby d6_119) ?_
      refine XS.ladd X56.here hx rfl (hb hby d6_120) rfl ?_
      refine st58 _ ?_
      exact X58.returnOut hx hrt (hb hby d6_124) hr
    · show Q6_2 Z  o0 o1 o2 o3 o4 o5 o6 q0 p1 p2 p3 p4 p5 p7 p6 q8 h0 n0 none T58.heap _
      rw [e58]; exact ⟨b5, b3_10, b9_10, b3_10_10_10, (q0 + (1 : Int64)), u_46, rfl, N58, K58, fc59, Fw58, fc60, fc61, fc62, fc63, fc64, fc65, fc66, fc67, fc68, fc69, fc70, fc71, fc72, sz_b5, sz_b3_10, sz_b9_10, sz_b3_10_10_10, ne_b5_b3_10, ne_b5_b9_10, ne_b5_b3_10_10_10, P11_10, P12_10, P13_10, np0_46⟩
  · obtain ⟨fs, hr, hrun, hended, hW, hsame⟩ := X42.leave (v := none) (fun _ => rfl) hlk
    have fc45 := ((fc24.wr W25).keep Kc33)
    have fc46 := (((((F_held_o0.ext E5).keep Kc10 (ninS ne_o0_b5 nin0)).other W21 (Or.inl ne_o0_o1)).other W25 (Or.inr (slot_ne (Or.inl (ww hw 111 rfl)) (Or.inl (ww hw 38 rfl)) (by decide) (t := .long) (t' := .int) (by decide) (by decide)))).keep Kc33 (ninS ne_o0_b3_10 nin0))
    have fc47 := (fc30.keep Kc33 (ninS ne_o0_b3_10 nin0))
    have fc48 := (fc26.keep Kc33 (ninS ne_o0_b3_10 nin0))
    have fc49 := (((fc18.other W21 (Or.inl ne_o0_o1)).other W25 (Or.inr (slot_ne (Or.inr (ww hw 30 rfl)) (Or.inl (ww hw 38 rfl)) (by decide) (t := (.array (.object sC2))) (t' := .int) (by decide) (by decide)))).keep Kc33 (ninS ne_o0_b3_10 nin0))
    have fc50 := (Fw25.keep Kc33 (ninS ne_o0_b3_10 nin0))
    have fc51 := ((V21.other W25 (Ne.symm ne_o0_o1)).keep Kc33 (ninS ne_o1_b3_10 nin0))
    have fc52 := (((P0_10.wr W21).wr W25).keep Kc33)
    have fc53 := (fc28.keep Kc33 (ninS ne_b5_b3_10 nin0))
    refine ⟨_, _, pre_44 _ ?_, hrun, hended, _, _, rfl, ?_, ⟨_, rfl⟩, hW, hsame.mono (by decide) (by decide)⟩
    · show Steps p.tables e below (T42.setTop (mkF m 101 #[va o0, vl q8, ss, va o6, vi ((q8 / (p2.toInt64)).toInt32), va b5, vi ((own_lr q8 (p2.toInt64)).toInt32)] [(.int r_42)])) _
      refine XS.ifYes X42.here hx rfl (pc0 := 101) (pc' := 124) rfl (hb hby d6_101) rfl ((if0 _ _).trans (feq hc43).2) (by decide) (by decide) ?_
      exact X42.returnOut hx hrt (hb hby d6_124) hr
    · show Q6_2 Z  o0 o1 o2 o3 o4 o5 o6 q0 p1 p2 p3 p4 p5 p7 p6 q8 h0 n0 none T42.heap _
      rw [e42]; exact ⟨b5, b3_10, b9_10, b3_10_10_10, q0, (0 : Int32), rfl, N42, K33, fc45, fc46, fc47, fc48, fc49, fc50, fc51, fc52, fc53, fc36, V33, fc38, fc39, fc40, fc41, sz_b5, sz_b3_10, sz_b9_10, sz_b3_10_10_10, ne_b5_b3_10, ne_b5_b9_10, ne_b5_b3_10_10_10, P11_10, P12_10, P13_10, (own_ru0 (own_pN hP))⟩
def Q5_2 (Z : State) (o0 : Addr) (o1 : Addr) (o2 : Addr) (o3 : Addr) (o4 : Addr) (o5 : Addr) (o6 : Addr) (o7 : Addr) (o8 : Addr) (o9 : Addr) (q0 : Int64) (p1 : Int32) (p2 : Int32) (p3 : Int32) (p4 : Int32) (p8 : Int32) (p5 : Int32) (p7 : Int32) (p6 : Int32) (p9 : Int32) (p11 : Int32) (p10 : Int32) (h0 : Heap) (n0 : Nat) (v : Option Value) (h : Heap) (L : List Loc) : Prop := v = (some (.long (((p3.toInt64) * (8 : Int64)) + ((2 : Int64) * ((((p2.toInt64) * (p1.toInt64)) + ((p2 / (8 : Int32)).toInt64)) + (64 : Int64)))))) ∧ Fr n0 L ∧ h = h0
theorem rm5_2 (l : Launch) (Z : State) (a0 : Array Value) (hw : HW Z a0) (ws : List Jvm.Cond) (o0 : Addr) (o1 : Addr) (o2 : Addr) (o3 : Addr) (o4 : Addr) (o5 : Addr) (o6 : Addr) (o7 : Addr) (o8 : Addr) (o9 : Addr) (q0 : Int64) (p1 : Int32) (p2 : Int32) (p3 : Int32) (p4 : Int32) (p8 : Int32) (p5 : Int32) (p7 : Int32) (p6 : Int32) (p9 : Int32) (p11 : Int32) (p10 : Int32) (h0 : Heap) (n0 : Nat) (O0 : Old Z n0 h0) (S : SF Z ) (F_length_o0 : Fld Z h0 o0 sC0 "length" "I" (.int p1)) (F_pageSlots_o0 : Fld Z h0 o0 sC0 "pageSlots" "I" (.int p2)) (F_pages_o0 : Fld Z h0 o0 sC0 "pages" "[Lcom/example/tributary/tributary/model/NodeHashes$Page;" (.ref o1)) (F_pagesMade_o0 : Fld Z h0 o0 sC0 "pagesMade" "I" (.int 2)) (V_o1 : PA Z h0 o1 p3 [(p4, (.ref o2)), (p8, (.ref o6))]) :
    Pay l Z My5 ws prog_47_method_8_code 1 (some .long) #[(.ref o0)] h0 ({ frames := 0, cells := 0, slots := 0, locals := 0 } : Room) (Q5_2 Z  o0 o1 o2 o3 o4 o5 o6 o7 o8 o9 q0 p1 p2 p3 p4 p8 p5 p7 p6 p9 p11 p10 h0 n0) := by
  refine own_body (plainFor_of_name pn_1) (L0 := #[va o0]) (fun _ => by first | rfl | (simp [entryFrame, mkF, argsToLocals, Value.category]; done)) ?_
  intro p e s m below meth c s₁ hrt hlk hx hby hml hZ hown0 hnm X0 e0
  have hown : s.vm.findClass sC0 = some m.cls := hown0
  have N0 := Fr.nil n0
  have K0 : Keep h0 h0 [] := Keep.refl _ _
  obtain ⟨T1, X1, e1, st1⟩ := getF X0 hx hZ hown (host := "") (Or.inl (ww hw 29 rfl)) Via.refl e0 F_pages_o0 (g := (mkF m 1 #[va o0] [(.ref o0)])) rfl rfl (hb hby d5_1)
  obtain ⟨T2, X2, e2, st2⟩ := getF X1 hx hZ hown (host := "") (Or.inl (ww hw 37 rfl)) Via.refl e1 F_pagesMade_o0 (g := (mkF m 11 #[va o0] [(.ref o0), (.long ((p3.toInt64) * (8 : Int64)))])) rfl rfl (hb hby d5_11)
  obtain ⟨T3, X3, e3, st3⟩ := getF X2 hx hZ hown (host := "") (Or.inl (ww hw 22 rfl)) Via.refl e2 F_pageSlots_o0 (g := (mkF m 16 #[va o0] [(.ref o0), (.long 2), (.long ((p3.toInt64) * (8 : Int64)))])) rfl rfl (hb hby d5_16)
  obtain ⟨T4, X4, e4, st4⟩ := getF X3 hx hZ hown (host := "") (Or.inl (ww hw 15 rfl)) Via.refl e3 F_length_o0 (g := (mkF m 21 #[va o0] [(.ref o0), (.long (p2.toInt64)), (.long 2), (.long ((p3.toInt64) * (8 : Int64)))])) rfl rfl (hb hby d5_21)
  obtain ⟨T5, X5, e5, st5⟩ := getF X4 hx hZ hown (host := "") (Or.inl (ww hw 22 rfl)) Via.refl e4 F_pageSlots_o0 (g := (mkF m 27 #[va o0] [(.ref o0), (.long ((p2.toInt64) * (p1.toInt64))), (.long 2), (.long ((p3.toInt64) * (8 : Int64)))])) rfl rfl (hb hby d5_27)
  obtain ⟨fs, hr, hrun, hended, hW, hsame⟩ := X5.leave (v := (some (.long (((p3.toInt64) * (8 : Int64)) + ((2 : Int64) * ((((p2.toInt64) * (p1.toInt64)) + ((p2 / (8 : Int32)).toInt64)) + (64 : Int64))))))) (fun h => by rw [hrt] at h; cases h) hlk
  refine ⟨_, _, ?_, hrun, hended, _, _, rfl, ?_, ⟨_, rfl⟩, hW, hsame.mono (by decide) (by decide)⟩
  · show Steps p.tables e below (s₁.setTop (mkF m 0 #[va o0] [])) _
    refine XS.aloadN X0.here hx rfl (hb hby d5_0) rfl rfl ?_
    refine st1 _ ?_
    refine own_alenP X1 hx hZ e1 V_o1 (g := (mkF m 4 #[va o0] [(.ref o1)])) rfl rfl (hb hby d5_4) _ ?_
    refine XS.i2l X1.here hx rfl (hb hby d5_5) rfl ?_
    refine X1.ldc2Long hx hown (mvT hZ (ww hw 36 rfl)) (g := (mkF m 6 #[va o0] [(.long (p3.toInt64))])) rfl (hb hby d5_6) _ ?_
    refine XS.lmul X1.here hx rfl (hb hby d5_9) rfl ?_
    refine XS.aloadN X1.here hx rfl (hb hby d5_10) rfl rfl ?_
    refine st2 _ ?_
    show Steps p.tables e below (T2.setTop (mkF m 14 #[va o0] [(.int 2), (.long ((p3.toInt64) * (8 : Int64)))])) _
    refine XS.i2l X2.here hx rfl (hb hby d5_14) rfl ?_
    show Steps p.tables e below (T2.setTop (mkF m 15 #[va o0] [(.long ((2 : Int32).toInt64)), (.long ((p3.toInt64) * (8 : Int64)))])) _
    rw [show (((2 : Int32).toInt64) : Int64) = (2 : Int64) from by decide]
    refine XS.aloadN X2.here hx rfl (hb hby d5_15) rfl rfl ?_
    refine st3 _ ?_
    refine XS.i2l X3.here hx rfl (hb hby d5_19) rfl ?_
    refine XS.aloadN X3.here hx rfl (hb hby d5_20) rfl rfl ?_
    refine st4 _ ?_
    refine XS.i2l X4.here hx rfl (hb hby d5_24) rfl ?_
    refine XS.lmul X4.here hx rfl (hb hby d5_25) rfl ?_
    show Steps p.tables e below (T4.setTop (mkF m 26 #[va o0] [(.long ((p2.toInt64) * (p1.toInt64))), (.long 2), (.long ((p3.toInt64) * (8 : Int64)))])) _
    refine XS.aloadN X4.here hx rfl (hb hby d5_26) rfl rfl ?_
    refine st5 _ ?_
    refine XS.bipush X5.here hx rfl (hb hby d5_30) ?_
    refine XS.idiv X5.here hx rfl (hb hby d5_32) rfl (by decide) ?_
    refine XS.i2l X5.here hx rfl (hb hby d5_33) rfl ?_
    refine XS.ladd X5.here hx rfl (hb hby d5_34) rfl ?_
    refine X5.ldc2Long hx hown (mvT hZ (ww hw 39 rfl)) (g := (mkF m 35 #[va o0] [(.long (((p2.toInt64) * (p1.toInt64)) + ((p2 / (8 : Int32)).toInt64))), (.long 2), (.long ((p3.toInt64) * (8 : Int64)))])) rfl (hb hby d5_35) _ ?_
    refine XS.ladd X5.here hx rfl (hb hby d5_38) rfl ?_
    show Steps p.tables e below (T5.setTop (mkF m 39 #[va o0] [(.long ((((p2.toInt64) * (p1.toInt64)) + ((p2 / (8 : Int32)).toInt64)) + (64 : Int64))), (.long 2), (.long ((p3.toInt64) * (8 : Int64)))])) _
    refine XS.lmul X5.here hx rfl (hb hby d5_39) rfl ?_
    refine XS.ladd X5.here hx rfl (hb hby d5_40) rfl ?_
    exact retOut X5 hx (t := .long) (i := .lreturn) hrt rfl (Or.inr (Or.inl ⟨rfl, rfl, _, rfl⟩)) (hb hby d5_41) hr
  · show Q5_2 Z  o0 o1 o2 o3 o4 o5 o6 o7 o8 o9 q0 p1 p2 p3 p4 p8 p5 p7 p6 p9 p11 p10 h0 n0 (some (.long (((p3.toInt64) * (8 : Int64)) + ((2 : Int64) * ((((p2.toInt64) * (p1.toInt64)) + ((p2 / (8 : Int32)).toInt64)) + (64 : Int64)))))) T5.heap _
    exact (⟨rfl, N0, e5⟩)
theorem d16_73 : decode prog_47_method_5_code 73 = .ok (.iload 10, 2) := by decide +kernel
theorem d16_75 : decode prog_47_method_5_code 75 = .ok (.ifCond .lt 37, 3) := by decide +kernel
theorem d16_78 : decode prog_47_method_5_code 78 = .ok (.iload 10, 2) := by decide +kernel
theorem d16_80 : decode prog_47_method_5_code 80 = .ok (.iload 8, 2) := by decide +kernel
theorem d16_82 : decode prog_47_method_5_code 82 = .ok (.if_icmp .ge 30, 3) := by decide +kernel
theorem d16_85 : decode prog_47_method_5_code 85 = .ok (.aload_n 0, 1) := by decide +kernel
theorem d16_86 : decode prog_47_method_5_code 86 = .ok (.dup, 1) := by decide +kernel
theorem d16_87 : decode prog_47_method_5_code 87 = .ok (.getfield 64, 3) := by decide +kernel
theorem d16_90 : decode prog_47_method_5_code 90 = .ok (.lconst 1, 1) := by decide +kernel
theorem d16_91 : decode prog_47_method_5_code 91 = .ok (.lsub, 1) := by decide +kernel
theorem d16_92 : decode prog_47_method_5_code 92 = .ok (.putfield 64, 3) := by decide +kernel
theorem d16_95 : decode prog_47_method_5_code 95 = .ok (.aload 9, 2) := by decide +kernel
theorem d16_97 : decode prog_47_method_5_code 97 = .ok (.getfield 50, 3) := by decide +kernel
theorem d16_100 : decode prog_47_method_5_code 100 = .ok (.iload 10, 2) := by decide +kernel
theorem d16_102 : decode prog_47_method_5_code 102 = .ok (.iconst 1, 1) := by decide +kernel
theorem d16_103 : decode prog_47_method_5_code 103 = .ok (.iadd, 1) := by decide +kernel
theorem d16_104 : decode prog_47_method_5_code 104 = .ok (.invokevirtual 87, 3) := by decide +kernel
theorem d17_0 : decode jdk_92_method_28_code 0 = .ok (.iload_n 1, 1) := by decide +kernel
theorem d17_1 : decode jdk_92_method_28_code 1 = .ok (.ifCond .ge 30, 3) := by decide +kernel
theorem d17_31 : decode jdk_92_method_28_code 31 = .ok (.aload_n 0, 1) := by decide +kernel
theorem d17_32 : decode jdk_92_method_28_code 32 = .ok (.invokevirtual 56, 3) := by decide +kernel
theorem d17_35 : decode jdk_92_method_28_code 35 = .ok (.iload_n 1, 1) := by decide +kernel
theorem d17_36 : decode jdk_92_method_28_code 36 = .ok (.invokestatic 52, 3) := by decide +kernel
theorem d17_39 : decode jdk_92_method_28_code 39 = .ok (.istore_n 2, 1) := by decide +kernel
theorem d17_40 : decode jdk_92_method_28_code 40 = .ok (.iload_n 2, 1) := by decide +kernel
theorem d17_41 : decode jdk_92_method_28_code 41 = .ok (.aload_n 0, 1) := by decide +kernel
theorem d17_42 : decode jdk_92_method_28_code 42 = .ok (.getfield 7, 3) := by decide +kernel
theorem d17_45 : decode jdk_92_method_28_code 45 = .ok (.if_icmp .lt 5, 3) := by decide +kernel
theorem d17_50 : decode jdk_92_method_28_code 50 = .ok (.aload_n 0, 1) := by decide +kernel
theorem d17_51 : decode jdk_92_method_28_code 51 = .ok (.getfield 11, 3) := by decide +kernel
theorem d17_54 : decode jdk_92_method_28_code 54 = .ok (.iload_n 2, 1) := by decide +kernel
theorem d17_55 : decode jdk_92_method_28_code 55 = .ok (.laload, 1) := by decide +kernel
theorem d17_56 : decode jdk_92_method_28_code 56 = .ok (.ldc2_w 165, 3) := by decide +kernel
theorem d17_59 : decode jdk_92_method_28_code 59 = .ok (.iload_n 1, 1) := by decide +kernel
theorem d17_60 : decode jdk_92_method_28_code 60 = .ok (.lshl, 1) := by decide +kernel
theorem d17_61 : decode jdk_92_method_28_code 61 = .ok (.land, 1) := by decide +kernel
theorem d17_62 : decode jdk_92_method_28_code 62 = .ok (.lstore_n 3, 1) := by decide +kernel
theorem d17_63 : decode jdk_92_method_28_code 63 = .ok (.lload_n 3, 1) := by decide +kernel
theorem d17_64 : decode jdk_92_method_28_code 64 = .ok (.lconst 0, 1) := by decide +kernel
theorem d17_65 : decode jdk_92_method_28_code 65 = .ok (.lcmp, 1) := by decide +kernel
theorem d17_66 : decode jdk_92_method_28_code 66 = .ok (.ifCond .eq 13, 3) := by decide +kernel
theorem d17_79 : decode jdk_92_method_28_code 79 = .ok (.iinc 2 1, 3) := by decide +kernel
theorem d17_82 : decode jdk_92_method_28_code 82 = .ok (.iload_n 2, 1) := by decide +kernel
theorem d17_83 : decode jdk_92_method_28_code 83 = .ok (.aload_n 0, 1) := by decide +kernel
theorem d17_84 : decode jdk_92_method_28_code 84 = .ok (.getfield 7, 3) := by decide +kernel
theorem d17_87 : decode jdk_92_method_28_code 87 = .ok (.if_icmp .ne 5, 3) := by decide +kernel
theorem d17_90 : decode jdk_92_method_28_code 90 = .ok (.iconst (-1), 1) := by decide +kernel
theorem d17_91 : decode jdk_92_method_28_code 91 = .ok (.ireturn, 1) := by decide +kernel
theorem d17_92 : decode jdk_92_method_28_code 92 = .ok (.aload_n 0, 1) := by decide +kernel
theorem d17_93 : decode jdk_92_method_28_code 93 = .ok (.getfield 11, 3) := by decide +kernel
theorem d17_96 : decode jdk_92_method_28_code 96 = .ok (.iload_n 2, 1) := by decide +kernel
theorem d17_97 : decode jdk_92_method_28_code 97 = .ok (.laload, 1) := by decide +kernel
theorem d17_98 : decode jdk_92_method_28_code 98 = .ok (.lstore_n 3, 1) := by decide +kernel
theorem d17_99 : decode jdk_92_method_28_code 99 = .ok (.goto (-36), 3) := by decide +kernel
theorem d17_69 : decode jdk_92_method_28_code 69 = .ok (.iload_n 2, 1) := by decide +kernel
theorem d17_70 : decode jdk_92_method_28_code 70 = .ok (.bipush 64, 2) := by decide +kernel
theorem d17_72 : decode jdk_92_method_28_code 72 = .ok (.imul, 1) := by decide +kernel
theorem d17_73 : decode jdk_92_method_28_code 73 = .ok (.lload_n 3, 1) := by decide +kernel
theorem d17_74 : decode jdk_92_method_28_code 74 = .ok (.invokestatic 182, 3) := by decide +kernel
theorem d17_77 : decode jdk_92_method_28_code 77 = .ok (.iadd, 1) := by decide +kernel
theorem d17_78 : decode jdk_92_method_28_code 78 = .ok (.ireturn, 1) := by decide +kernel
theorem d17_48 : decode jdk_92_method_28_code 48 = .ok (.iconst (-1), 1) := by decide +kernel
theorem d17_49 : decode jdk_92_method_28_code 49 = .ok (.ireturn, 1) := by decide +kernel
def Q17_0 (Z : State) (o0 : Addr) (o1 : Addr) (p1 : Int32) (p0 : Int32) (p2 : Int32) (h0 : Heap) (n0 : Nat) (v : Option Value) (h : Heap) (L : List Loc) : Prop := ∃ (r : Int32), v = (some (.int r)) ∧ Fr n0 L ∧ h = h0 ∧ (r.toInt = -1 ∨ (p2).toInt ≤ r.toInt)
theorem rm17_0 (l : Launch) (Z : State) (a0 : Array Value) (hw : HW Z a0) (ws : List Jvm.Cond) (o0 : Addr) (o1 : Addr) (p1 : Int32) (p0 : Int32) (p2 : Int32) (h0 : Heap) (n0 : Nat) (O0 : Old Z n0 h0) (S : SF Z ) (E_o0 : Exa Z h0 o0 sC1) (F_words_o0 : Fld Z h0 o0 sC1 "words" "[J" (.ref o1)) (F_wordsInUse_o0 : Fld Z h0 o0 sC1 "wordsInUse" "I" (.int p1)) (V_o1 : LA Z h0 o1 p0) (hU : RU p1 p0) (hN : NW p0) (hf : 0 ≤ (p2).toInt ∧ (p2).toInt ≤ 256) :
    Pay l Z My17 ws jdk_92_method_28_code 5 (some .int) #[(.ref o0), (.int p2)] h0 ({ frames := 2, cells := 0, slots := 0, locals := 29 } : Room) (Q17_0 Z  o0 o1 p1 p0 p2 h0 n0) := by
  refine own_body (plainFor_of_name pn_3) (L0 := #[va o0, vi p2, uu, uu, uu]) (fun _ => by first | rfl | (simp [entryFrame, mkF, argsToLocals, Value.category]; done)) ?_
  intro p e s m below meth c s₁ hrt hlk hx hby hml hZ hown0 hnm X0 e0
  have hown : s.vm.findClass sC1 = some m.cls := hown0
  have N0 := Fr.nil n0
  have K0 : Keep h0 h0 [] := Keep.refl _ _
  have hc1 : ¬ (p2 < (0 : Int32)) := (own_nlt0 hf.1)
  obtain ⟨cq2, qa2, qb2⟩ := E_o0.cell
  obtain ⟨_, _, ⟨T2, L2, k2, n2⟩, -, X2, ⟨Lc2, hQ2, l2, y2, z2⟩, st2⟩ := X0.privateBack hx (y := My12) hown (mvT hZ (ww hw 89 rfl)) (mvT hZ (ww hw 90 rfl)) (own_selp (by decide) (mvT hZ (ww hw 54 rfl)) (mvP hZ (ww hw 91 rfl)) (mvT hZ (ww hw 90 rfl))) (Cond.privateMethod_at (mvP hZ (ww hw 91 rfl) (args := #[]))) (mvT hZ (ww hw 93 rfl)) (by decide) (backOf (W := 0) (rm12_0 l Z a0 hw []  o0 o1 p1 p0 h0 n0 O0 S) hZ (ww hw 93 rfl) (ww hw 55 rfl) (by decide) (by decide)) (g := (mkF m 32 #[va o0, vi p2, uu, uu, uu] [(.ref o0)])) rfl (by rw [hml]; rfl) (Steps.refl _) (a := o0) (by rw [e0]; exact qa2) qb2 (argsL := []) (rest := []) (lenOf pd_7 rfl) rfl (by show 2 * 0 + _ ≤ _; exact Nat.le_of_eq rfl) (hb hby d17_32) (fun _ _ => ⟨rfl, e0, (by decide : 0 + 0 ≤ _), (by decide : 0 + 0 ≤ _)⟩)
  dsimp only [Pt.U, Pt.locs, Pt.cells, Pt.slots] at X2 l2 y2 z2 st2 hQ2
  subst l2 y2 z2
  obtain ⟨rfl, Nq2, e2⟩ := hQ2
  have N2 := Fr.app N0 Nq2
  obtain ⟨_, _, ⟨T3, L3, k3, n3⟩, -, X3, ⟨Lc3, hQ3, l3, y3, z3⟩, st3⟩ := Jvm.LawKit.callS X2 hx (y := My10) hown (mvT hZ (ww hw 69 rfl)) (mvT hZ (ww hw 70 rfl)) (mvT hZ (ww hw 55 rfl)) (mvT hZ (ww hw 71 rfl)) (by decide) (backOf (W := 0) (rm10_0 l Z a0 hw []  p2 h0 n0 O0 S) hZ (ww hw 71 rfl) (ww hw 55 rfl) (by decide) (by decide)) (g := (mkF m 36 #[va o0, vi p2, uu, uu, uu] [(.int p2)])) rfl (by rw [hml]; rfl) (argsL := [(.int p2)]) (rest := []) (lenOf pd_4 rfl) rfl (by show 2 * 0 + _ ≤ _; exact Nat.le_of_eq rfl) (hb hby d17_36) (fun _ _ => ⟨rfl, e2, (by decide : 0 + 0 ≤ _), (by decide : 0 + 0 ≤ _)⟩)
  dsimp only [Pt.U, Pt.locs, Pt.cells, Pt.slots] at X3 l3 y3 z3 st3 hQ3
  subst l3 y3 z3
  obtain ⟨rfl, Nq3, e3⟩ := hQ3
  have N3 := Fr.app N2 Nq3
  obtain ⟨T4, X4, e4, st4⟩ := getF X3 hx hZ hown (host := "") (Or.inl (ww hw 60 rfl)) Via.refl e3 F_wordsInUse_o0 (g := (mkF m 42 #[va o0, vi p2, vi (p2 >>> ((6 : Int32) &&& 31)), uu, uu] [(.ref o0), (.int (p2 >>> ((6 : Int32) &&& 31)))])) rfl rfl (hb hby d17_42)
  have pre_6 : ∀ t, Steps p.tables e below (T4.setTop (mkF m 45 #[va o0, vi p2, vi (p2 >>> ((6 : Int32) &&& 31)), uu, uu] [(.int p1), (.int (p2 >>> ((6 : Int32) &&& 31)))])) t → Steps p.tables e below (s₁.setTop (mkF m 0 #[va o0, vi p2, uu, uu, uu] [])) t := fun t k => (by
    show Steps p.tables e below (s₁.setTop (mkF m 0 #[va o0, vi p2, uu, uu, uu] [])) _
    refine XS.iloadN X0.here hx rfl (hb hby d17_0) rfl ?_
    refine XS.ifYes X0.here hx rfl (pc0 := 1) (pc' := 31) rfl (hb hby d17_1) rfl ((if0 _ _).trans (flt hc1).2.1) (by decide) (by decide) ?_
    refine XS.aloadN X0.here hx rfl (hb hby d17_31) rfl rfl ?_
    refine st2.trans ?_
    refine XS.iloadN X2.here hx rfl (hb hby d17_35) rfl ?_
    refine st3 _ ?_
    refine XS.istoreN X3.here hx rfl (hb hby d17_39) rfl (l' := #[va o0, vi p2, vi (p2 >>> ((6 : Int32) &&& 31)), uu, uu]) rfl ?_
    refine XS.iloadN X3.here hx rfl (hb hby d17_40) rfl ?_
    show Steps p.tables e below (T3.setTop (mkF m 41 #[va o0, vi p2, vi (p2 >>> ((6 : Int32) &&& 31)), uu, uu] [(.int (p2 >>> ((6 : Int32) &&& 31)))])) _
    refine XS.aloadN X3.here hx rfl (hb hby d17_41) rfl rfl ?_
    refine st4 _ ?_
    exact k)
  by_cases hc5 : (p2 >>> ((6 : Int32) &&& 31)) < p1
  · have hi0 := own_nx0 (f := p2) hf hc5
    obtain ⟨T7, X7, e7, st7⟩ := getF X4 hx hZ hown (host := "") (Or.inl (ww hw 73 rfl)) Via.refl e4 F_words_o0 (g := (mkF m 51 #[va o0, vi p2, vi (p2 >>> ((6 : Int32) &&& 31)), uu, uu] [(.ref o0)])) rfl rfl (hb hby d17_51)
    obtain ⟨x8, st8⟩ := own_laload X7 hx hZ e7 V_o1 (own_nxb hi0 hf hU) (g := (mkF m 55 #[va o0, vi p2, vi (p2 >>> ((6 : Int32) &&& 31)), uu, uu] [(.int (p2 >>> ((6 : Int32) &&& 31))), (.ref o1)])) rfl rfl (hb hby d17_55)
    have pre_10 : ∀ t, Steps p.tables e below (T7.setTop (mkF m 66 #[va o0, vi p2, vi (p2 >>> ((6 : Int32) &&& 31)), vl (x8 &&& ((-1 : Int64) <<< (p2 &&& 0x3f).toInt64)), ss] [(.int (lcmpW (x8 &&& ((-1 : Int64) <<< (p2 &&& 0x3f).toInt64)) (0 : Int64)))])) t → Steps p.tables e below (s₁.setTop (mkF m 0 #[va o0, vi p2, uu, uu, uu] [])) t := fun t k => pre_6 t (by
      show Steps p.tables e below (T4.setTop (mkF m 45 #[va o0, vi p2, vi (p2 >>> ((6 : Int32) &&& 31)), uu, uu] [(.int p1), (.int (p2 >>> ((6 : Int32) &&& 31)))])) _
      refine XS.icmpYes X4.here hx rfl (pc0 := 45) (pc' := 50) rfl (hb hby d17_45) rfl (tlt hc5).1 (by decide) (by decide) ?_
      refine XS.aloadN X4.here hx rfl (hb hby d17_50) rfl rfl ?_
      refine st7 _ ?_
      refine XS.iloadN X7.here hx rfl (hb hby d17_54) rfl ?_
      refine st8 _ ?_
      refine X7.ldc2Long hx hown (mvT hZ (ww hw 122 rfl)) (g := (mkF m 56 #[va o0, vi p2, vi (p2 >>> ((6 : Int32) &&& 31)), uu, uu] [(.long x8)])) rfl (hb hby d17_56) _ ?_
      refine XS.iloadN X7.here hx rfl (hb hby d17_59) rfl ?_
      refine XS.lshl X7.here hx rfl (hb hby d17_60) rfl ?_
      show Steps p.tables e below (T7.setTop (mkF m 61 #[va o0, vi p2, vi (p2 >>> ((6 : Int32) &&& 31)), uu, uu] [(.long ((-1 : Int64) <<< (p2 &&& 0x3f).toInt64)), (.long x8)])) _
      refine XS.land X7.here hx rfl (hb hby d17_61) rfl ?_
      refine XS.lstoreN X7.here hx rfl (hb hby d17_62) rfl (l' := #[va o0, vi p2, vi (p2 >>> ((6 : Int32) &&& 31)), vl (x8 &&& ((-1 : Int64) <<< (p2 &&& 0x3f).toInt64)), ss]) rfl ?_
      refine XS.lloadN X7.here hx rfl (hb hby d17_63) rfl ?_
      refine XS.lconst X7.here hx rfl (hb hby d17_64) ?_
      refine XS.lcmp X7.here hx rfl (hb hby d17_65) rfl ?_
      exact k)
    by_cases hc9 : (x8 &&& ((-1 : Int64) <<< (p2 &&& 0x3f).toInt64)) = (0 : Int64)
    · obtain ⟨T11, X11, e11, st11⟩ := getF X7 hx hZ hown (host := "") (Or.inl (ww hw 60 rfl)) Via.refl e7 F_wordsInUse_o0 (g := (mkF m 84 #[va o0, vi p2, vi ((p2 >>> ((6 : Int32) &&& 31)) + (1 : Int32)), vl (x8 &&& ((-1 : Int64) <<< (p2 &&& 0x3f).toInt64)), ss] [(.ref o0), (.int ((p2 >>> ((6 : Int32) &&& 31)) + (1 : Int32)))])) rfl rfl (hb hby d17_84)
      have pre_13 : ∀ t, Steps p.tables e below (T11.setTop (mkF m 87 #[va o0, vi p2, vi ((p2 >>> ((6 : Int32) &&& 31)) + (1 : Int32)), vl (x8 &&& ((-1 : Int64) <<< (p2 &&& 0x3f).toInt64)), ss] [(.int p1), (.int ((p2 >>> ((6 : Int32) &&& 31)) + (1 : Int32)))])) t → Steps p.tables e below (s₁.setTop (mkF m 0 #[va o0, vi p2, uu, uu, uu] [])) t := fun t k => pre_10 t (by
        show Steps p.tables e below (T7.setTop (mkF m 66 #[va o0, vi p2, vi (p2 >>> ((6 : Int32) &&& 31)), vl (x8 &&& ((-1 : Int64) <<< (p2 &&& 0x3f).toInt64)), ss] [(.int (lcmpW (x8 &&& ((-1 : Int64) <<< (p2 &&& 0x3f).toInt64)) (0 : Int64)))])) _
        refine XS.ifYes X7.here hx rfl (pc0 := 66) (pc' := 79) rfl (hb hby d17_66) rfl (own_lc_eqT hc9).1 (by decide) (by decide) ?_
        refine XS.iinc X7.here hx rfl (hb hby d17_79) rfl (l' := #[va o0, vi p2, vi ((p2 >>> ((6 : Int32) &&& 31)) + (1 : Int32)), vl (x8 &&& ((-1 : Int64) <<< (p2 &&& 0x3f).toInt64)), ss]) rfl ?_
        refine XS.iloadN X7.here hx rfl (hb hby d17_82) rfl ?_
        refine XS.aloadN X7.here hx rfl (hb hby d17_83) rfl rfl ?_
        refine st11 _ ?_
        exact k)
      by_cases hc12 : ((p2 >>> ((6 : Int32) &&& 31)) + (1 : Int32)) = p1
      · obtain ⟨fs, hr, hrun, hended, hW, hsame⟩ := X11.leave (v := (some (.int (-1)))) (fun h => by rw [hrt] at h; cases h) hlk
        refine ⟨_, _, pre_13 _ ?_, hrun, hended, _, _, rfl, ?_, ⟨_, rfl⟩, hW, hsame.mono (by decide) (by decide)⟩
        · show Steps p.tables e below (T11.setTop (mkF m 87 #[va o0, vi p2, vi ((p2 >>> ((6 : Int32) &&& 31)) + (1 : Int32)), vl (x8 &&& ((-1 : Int64) <<< (p2 &&& 0x3f).toInt64)), ss] [(.int p1), (.int ((p2 >>> ((6 : Int32) &&& 31)) + (1 : Int32)))])) _
          refine XS.icmpNo X11.here hx rfl (hb hby d17_87) rfl (teq hc12).2 ?_
          refine XS.iconst X11.here hx rfl (hb hby d17_90) ?_
          exact retOut X11 hx (t := .int) (i := .ireturn) hrt rfl (Or.inl ⟨rfl, Or.inl rfl, _, rfl⟩) (hb hby d17_91) hr
        · show Q17_0 Z  o0 o1 p1 p0 p2 h0 n0 (some (.int (-1))) T11.heap _
          exact (⟨(-1 : Int32), rfl, N3, e11, (Or.inl (by decide))⟩)
      · have hi1 := own_nxS hi0 hc12 hU hN
        obtain ⟨T14, X14, e14, st14⟩ := getF X11 hx hZ hown (host := "") (Or.inl (ww hw 73 rfl)) Via.refl e11 F_words_o0 (g := (mkF m 93 #[va o0, vi p2, vi ((p2 >>> ((6 : Int32) &&& 31)) + (1 : Int32)), vl (x8 &&& ((-1 : Int64) <<< (p2 &&& 0x3f).toInt64)), ss] [(.ref o0)])) rfl rfl (hb hby d17_93)
        obtain ⟨x15, st15⟩ := own_laload X14 hx hZ e14 V_o1 (own_nxb hi1 hf hU) (g := (mkF m 97 #[va o0, vi p2, vi ((p2 >>> ((6 : Int32) &&& 31)) + (1 : Int32)), vl (x8 &&& ((-1 : Int64) <<< (p2 &&& 0x3f).toInt64)), ss] [(.int ((p2 >>> ((6 : Int32) &&& 31)) + (1 : Int32))), (.ref o1)])) rfl rfl (hb hby d17_97)
        have pre_17 : ∀ t, Steps p.tables e below (T14.setTop (mkF m 66 #[va o0, vi p2, vi ((p2 >>> ((6 : Int32) &&& 31)) + (1 : Int32)), vl x15, ss] [(.int (lcmpW x15 (0 : Int64)))])) t → Steps p.tables e below (s₁.setTop (mkF m 0 #[va o0, vi p2, uu, uu, uu] [])) t := fun t k => pre_13 t (by
          show Steps p.tables e below (T11.setTop (mkF m 87 #[va o0, vi p2, vi ((p2 >>> ((6 : Int32) &&& 31)) + (1 : Int32)), vl (x8 &&& ((-1 : Int64) <<< (p2 &&& 0x3f).toInt64)), ss] [(.int p1), (.int ((p2 >>> ((6 : Int32) &&& 31)) + (1 : Int32)))])) _
          refine XS.icmpYes X11.here hx rfl (pc0 := 87) (pc' := 92) rfl (hb hby d17_87) rfl (feq hc12).2 (by decide) (by decide) ?_
          refine XS.aloadN X11.here hx rfl (hb hby d17_92) rfl rfl ?_
          refine st14 _ ?_
          refine XS.iloadN X14.here hx rfl (hb hby d17_96) rfl ?_
          refine st15 _ ?_
          refine XS.lstoreN X14.here hx rfl (hb hby d17_98) rfl (l' := #[va o0, vi p2, vi ((p2 >>> ((6 : Int32) &&& 31)) + (1 : Int32)), vl x15, ss]) rfl ?_
          refine XS.goto X14.here hx rfl (pc0 := 99) (pc' := 63) rfl (hb hby d17_99) (by decide) (by decide) ?_
          refine XS.lloadN X14.here hx rfl (hb hby d17_63) rfl ?_
          show Steps p.tables e below (T14.setTop (mkF m 64 #[va o0, vi p2, vi ((p2 >>> ((6 : Int32) &&& 31)) + (1 : Int32)), vl x15, ss] [(.long x15)])) _
          refine XS.lconst X14.here hx rfl (hb hby d17_64) ?_
          refine XS.lcmp X14.here hx rfl (hb hby d17_65) rfl ?_
          exact k)
        by_cases hc16 : x15 = (0 : Int64)
        · obtain ⟨T18, X18, e18, st18⟩ := getF X14 hx hZ hown (host := "") (Or.inl (ww hw 60 rfl)) Via.refl e14 F_wordsInUse_o0 (g := (mkF m 84 #[va o0, vi p2, vi (((p2 >>> ((6 : Int32) &&& 31)) + (1 : Int32)) + (1 : Int32)), vl x15, ss] [(.ref o0), (.int (((p2 >>> ((6 : Int32) &&& 31)) + (1 : Int32)) + (1 : Int32)))])) rfl rfl (hb hby d17_84)
          have pre_20 : ∀ t, Steps p.tables e below (T18.setTop (mkF m 87 #[va o0, vi p2, vi (((p2 >>> ((6 : Int32) &&& 31)) + (1 : Int32)) + (1 : Int32)), vl x15, ss] [(.int p1), (.int (((p2 >>> ((6 : Int32) &&& 31)) + (1 : Int32)) + (1 : Int32)))])) t → Steps p.tables e below (s₁.setTop (mkF m 0 #[va o0, vi p2, uu, uu, uu] [])) t := fun t k => pre_17 t (by
            show Steps p.tables e below (T14.setTop (mkF m 66 #[va o0, vi p2, vi ((p2 >>> ((6 : Int32) &&& 31)) + (1 : Int32)), vl x15, ss] [(.int (lcmpW x15 (0 : Int64)))])) _
            refine XS.ifYes X14.here hx rfl (pc0 := 66) (pc' := 79) rfl (hb hby d17_66) rfl (own_lc_eqT hc16).1 (by decide) (by decide) ?_
            refine XS.iinc X14.here hx rfl (hb hby d17_79) rfl (l' := #[va o0, vi p2, vi (((p2 >>> ((6 : Int32) &&& 31)) + (1 : Int32)) + (1 : Int32)), vl x15, ss]) rfl ?_
            refine XS.iloadN X14.here hx rfl (hb hby d17_82) rfl ?_
            refine XS.aloadN X14.here hx rfl (hb hby d17_83) rfl rfl ?_
            refine st18 _ ?_
            exact k)
          by_cases hc19 : (((p2 >>> ((6 : Int32) &&& 31)) + (1 : Int32)) + (1 : Int32)) = p1
          · obtain ⟨fs, hr, hrun, hended, hW, hsame⟩ := X18.leave (v := (some (.int (-1)))) (fun h => by rw [hrt] at h; cases h) hlk
            refine ⟨_, _, pre_20 _ ?_, hrun, hended, _, _, rfl, ?_, ⟨_, rfl⟩, hW, hsame.mono (by decide) (by decide)⟩
            · show Steps p.tables e below (T18.setTop (mkF m 87 #[va o0, vi p2, vi (((p2 >>> ((6 : Int32) &&& 31)) + (1 : Int32)) + (1 : Int32)), vl x15, ss] [(.int p1), (.int (((p2 >>> ((6 : Int32) &&& 31)) + (1 : Int32)) + (1 : Int32)))])) _
              refine XS.icmpNo X18.here hx rfl (hb hby d17_87) rfl (teq hc19).2 ?_
              refine XS.iconst X18.here hx rfl (hb hby d17_90) ?_
              exact retOut X18 hx (t := .int) (i := .ireturn) hrt rfl (Or.inl ⟨rfl, Or.inl rfl, _, rfl⟩) (hb hby d17_91) hr
            · show Q17_0 Z  o0 o1 p1 p0 p2 h0 n0 (some (.int (-1))) T18.heap _
              exact (⟨(-1 : Int32), rfl, N3, e18, (Or.inl (by decide))⟩)
          · have hi2 := own_nxS hi1 hc19 hU hN
            obtain ⟨T21, X21, e21, st21⟩ := getF X18 hx hZ hown (host := "") (Or.inl (ww hw 73 rfl)) Via.refl e18 F_words_o0 (g := (mkF m 93 #[va o0, vi p2, vi (((p2 >>> ((6 : Int32) &&& 31)) + (1 : Int32)) + (1 : Int32)), vl x15, ss] [(.ref o0)])) rfl rfl (hb hby d17_93)
            obtain ⟨x22, st22⟩ := own_laload X21 hx hZ e21 V_o1 (own_nxb hi2 hf hU) (g := (mkF m 97 #[va o0, vi p2, vi (((p2 >>> ((6 : Int32) &&& 31)) + (1 : Int32)) + (1 : Int32)), vl x15, ss] [(.int (((p2 >>> ((6 : Int32) &&& 31)) + (1 : Int32)) + (1 : Int32))), (.ref o1)])) rfl rfl (hb hby d17_97)
            have pre_24 : ∀ t, Steps p.tables e below (T21.setTop (mkF m 66 #[va o0, vi p2, vi (((p2 >>> ((6 : Int32) &&& 31)) + (1 : Int32)) + (1 : Int32)), vl x22, ss] [(.int (lcmpW x22 (0 : Int64)))])) t → Steps p.tables e below (s₁.setTop (mkF m 0 #[va o0, vi p2, uu, uu, uu] [])) t := fun t k => pre_20 t (by
              show Steps p.tables e below (T18.setTop (mkF m 87 #[va o0, vi p2, vi (((p2 >>> ((6 : Int32) &&& 31)) + (1 : Int32)) + (1 : Int32)), vl x15, ss] [(.int p1), (.int (((p2 >>> ((6 : Int32) &&& 31)) + (1 : Int32)) + (1 : Int32)))])) _
              refine XS.icmpYes X18.here hx rfl (pc0 := 87) (pc' := 92) rfl (hb hby d17_87) rfl (feq hc19).2 (by decide) (by decide) ?_
              refine XS.aloadN X18.here hx rfl (hb hby d17_92) rfl rfl ?_
              refine st21 _ ?_
              refine XS.iloadN X21.here hx rfl (hb hby d17_96) rfl ?_
              refine st22 _ ?_
              refine XS.lstoreN X21.here hx rfl (hb hby d17_98) rfl (l' := #[va o0, vi p2, vi (((p2 >>> ((6 : Int32) &&& 31)) + (1 : Int32)) + (1 : Int32)), vl x22, ss]) rfl ?_
              refine XS.goto X21.here hx rfl (pc0 := 99) (pc' := 63) rfl (hb hby d17_99) (by decide) (by decide) ?_
              refine XS.lloadN X21.here hx rfl (hb hby d17_63) rfl ?_
              show Steps p.tables e below (T21.setTop (mkF m 64 #[va o0, vi p2, vi (((p2 >>> ((6 : Int32) &&& 31)) + (1 : Int32)) + (1 : Int32)), vl x22, ss] [(.long x22)])) _
              refine XS.lconst X21.here hx rfl (hb hby d17_64) ?_
              refine XS.lcmp X21.here hx rfl (hb hby d17_65) rfl ?_
              exact k)
            by_cases hc23 : x22 = (0 : Int64)
            · obtain ⟨T25, X25, e25, st25⟩ := getF X21 hx hZ hown (host := "") (Or.inl (ww hw 60 rfl)) Via.refl e21 F_wordsInUse_o0 (g := (mkF m 84 #[va o0, vi p2, vi ((((p2 >>> ((6 : Int32) &&& 31)) + (1 : Int32)) + (1 : Int32)) + (1 : Int32)), vl x22, ss] [(.ref o0), (.int ((((p2 >>> ((6 : Int32) &&& 31)) + (1 : Int32)) + (1 : Int32)) + (1 : Int32)))])) rfl rfl (hb hby d17_84)
              have pre_27 : ∀ t, Steps p.tables e below (T25.setTop (mkF m 87 #[va o0, vi p2, vi ((((p2 >>> ((6 : Int32) &&& 31)) + (1 : Int32)) + (1 : Int32)) + (1 : Int32)), vl x22, ss] [(.int p1), (.int ((((p2 >>> ((6 : Int32) &&& 31)) + (1 : Int32)) + (1 : Int32)) + (1 : Int32)))])) t → Steps p.tables e below (s₁.setTop (mkF m 0 #[va o0, vi p2, uu, uu, uu] [])) t := fun t k => pre_24 t (by
                show Steps p.tables e below (T21.setTop (mkF m 66 #[va o0, vi p2, vi (((p2 >>> ((6 : Int32) &&& 31)) + (1 : Int32)) + (1 : Int32)), vl x22, ss] [(.int (lcmpW x22 (0 : Int64)))])) _
                refine XS.ifYes X21.here hx rfl (pc0 := 66) (pc' := 79) rfl (hb hby d17_66) rfl (own_lc_eqT hc23).1 (by decide) (by decide) ?_
                refine XS.iinc X21.here hx rfl (hb hby d17_79) rfl (l' := #[va o0, vi p2, vi ((((p2 >>> ((6 : Int32) &&& 31)) + (1 : Int32)) + (1 : Int32)) + (1 : Int32)), vl x22, ss]) rfl ?_
                refine XS.iloadN X21.here hx rfl (hb hby d17_82) rfl ?_
                refine XS.aloadN X21.here hx rfl (hb hby d17_83) rfl rfl ?_
                refine st25 _ ?_
                exact k)
              by_cases hc26 : ((((p2 >>> ((6 : Int32) &&& 31)) + (1 : Int32)) + (1 : Int32)) + (1 : Int32)) = p1
              · obtain ⟨fs, hr, hrun, hended, hW, hsame⟩ := X25.leave (v := (some (.int (-1)))) (fun h => by rw [hrt] at h; cases h) hlk
                refine ⟨_, _, pre_27 _ ?_, hrun, hended, _, _, rfl, ?_, ⟨_, rfl⟩, hW, hsame.mono (by decide) (by decide)⟩
                · show Steps p.tables e below (T25.setTop (mkF m 87 #[va o0, vi p2, vi ((((p2 >>> ((6 : Int32) &&& 31)) + (1 : Int32)) + (1 : Int32)) + (1 : Int32)), vl x22, ss] [(.int p1), (.int ((((p2 >>> ((6 : Int32) &&& 31)) + (1 : Int32)) + (1 : Int32)) + (1 : Int32)))])) _
                  refine XS.icmpNo X25.here hx rfl (hb hby d17_87) rfl (teq hc26).2 ?_
                  refine XS.iconst X25.here hx rfl (hb hby d17_90) ?_
                  exact retOut X25 hx (t := .int) (i := .ireturn) hrt rfl (Or.inl ⟨rfl, Or.inl rfl, _, rfl⟩) (hb hby d17_91) hr
                · show Q17_0 Z  o0 o1 p1 p0 p2 h0 n0 (some (.int (-1))) T25.heap _
                  exact (⟨(-1 : Int32), rfl, N3, e25, (Or.inl (by decide))⟩)
              · have hi3 := own_nxS hi2 hc26 hU hN
                obtain ⟨T28, X28, e28, st28⟩ := getF X25 hx hZ hown (host := "") (Or.inl (ww hw 73 rfl)) Via.refl e25 F_words_o0 (g := (mkF m 93 #[va o0, vi p2, vi ((((p2 >>> ((6 : Int32) &&& 31)) + (1 : Int32)) + (1 : Int32)) + (1 : Int32)), vl x22, ss] [(.ref o0)])) rfl rfl (hb hby d17_93)
                obtain ⟨x29, st29⟩ := own_laload X28 hx hZ e28 V_o1 (own_nxb hi3 hf hU) (g := (mkF m 97 #[va o0, vi p2, vi ((((p2 >>> ((6 : Int32) &&& 31)) + (1 : Int32)) + (1 : Int32)) + (1 : Int32)), vl x22, ss] [(.int ((((p2 >>> ((6 : Int32) &&& 31)) + (1 : Int32)) + (1 : Int32)) + (1 : Int32))), (.ref o1)])) rfl rfl (hb hby d17_97)
                have pre_31 : ∀ t, Steps p.tables e below (T28.setTop (mkF m 66 #[va o0, vi p2, vi ((((p2 >>> ((6 : Int32) &&& 31)) + (1 : Int32)) + (1 : Int32)) + (1 : Int32)), vl x29, ss] [(.int (lcmpW x29 (0 : Int64)))])) t → Steps p.tables e below (s₁.setTop (mkF m 0 #[va o0, vi p2, uu, uu, uu] [])) t := fun t k => pre_27 t (by
                  show Steps p.tables e below (T25.setTop (mkF m 87 #[va o0, vi p2, vi ((((p2 >>> ((6 : Int32) &&& 31)) + (1 : Int32)) + (1 : Int32)) + (1 : Int32)), vl x22, ss] [(.int p1), (.int ((((p2 >>> ((6 : Int32) &&& 31)) + (1 : Int32)) + (1 : Int32)) + (1 : Int32)))])) _
                  refine XS.icmpYes X25.here hx rfl (pc0 := 87) (pc' := 92) rfl (hb hby d17_87) rfl (feq hc26).2 (by decide) (by decide) ?_
                  refine XS.aloadN X25.here hx rfl (hb hby d17_92) rfl rfl ?_
                  refine st28 _ ?_
                  refine XS.iloadN X28.here hx rfl (hb hby d17_96) rfl ?_
                  refine st29 _ ?_
                  refine XS.lstoreN X28.here hx rfl (hb hby d17_98) rfl (l' := #[va o0, vi p2, vi ((((p2 >>> ((6 : Int32) &&& 31)) + (1 : Int32)) + (1 : Int32)) + (1 : Int32)), vl x29, ss]) rfl ?_
                  refine XS.goto X28.here hx rfl (pc0 := 99) (pc' := 63) rfl (hb hby d17_99) (by decide) (by decide) ?_
                  refine XS.lloadN X28.here hx rfl (hb hby d17_63) rfl ?_
                  show Steps p.tables e below (T28.setTop (mkF m 64 #[va o0, vi p2, vi ((((p2 >>> ((6 : Int32) &&& 31)) + (1 : Int32)) + (1 : Int32)) + (1 : Int32)), vl x29, ss] [(.long x29)])) _
                  refine XS.lconst X28.here hx rfl (hb hby d17_64) ?_
                  refine XS.lcmp X28.here hx rfl (hb hby d17_65) rfl ?_
                  exact k)
                by_cases hc30 : x29 = (0 : Int64)
                · obtain ⟨T32, X32, e32, st32⟩ := getF X28 hx hZ hown (host := "") (Or.inl (ww hw 60 rfl)) Via.refl e28 F_wordsInUse_o0 (g := (mkF m 84 #[va o0, vi p2, vi (((((p2 >>> ((6 : Int32) &&& 31)) + (1 : Int32)) + (1 : Int32)) + (1 : Int32)) + (1 : Int32)), vl x29, ss] [(.ref o0), (.int (((((p2 >>> ((6 : Int32) &&& 31)) + (1 : Int32)) + (1 : Int32)) + (1 : Int32)) + (1 : Int32)))])) rfl rfl (hb hby d17_84)
                  have hc33 : (((((p2 >>> ((6 : Int32) &&& 31)) + (1 : Int32)) + (1 : Int32)) + (1 : Int32)) + (1 : Int32)) = p1 := (own_nx4 hi3 hf hU hN)
                  obtain ⟨fs, hr, hrun, hended, hW, hsame⟩ := X32.leave (v := (some (.int (-1)))) (fun h => by rw [hrt] at h; cases h) hlk
                  refine ⟨_, _, pre_31 _ ?_, hrun, hended, _, _, rfl, ?_, ⟨_, rfl⟩, hW, hsame.mono (by decide) (by decide)⟩
                  · show Steps p.tables e below (T28.setTop (mkF m 66 #[va o0, vi p2, vi ((((p2 >>> ((6 : Int32) &&& 31)) + (1 : Int32)) + (1 : Int32)) + (1 : Int32)), vl x29, ss] [(.int (lcmpW x29 (0 : Int64)))])) _
                    refine XS.ifYes X28.here hx rfl (pc0 := 66) (pc' := 79) rfl (hb hby d17_66) rfl (own_lc_eqT hc30).1 (by decide) (by decide) ?_
                    refine XS.iinc X28.here hx rfl (hb hby d17_79) rfl (l' := #[va o0, vi p2, vi (((((p2 >>> ((6 : Int32) &&& 31)) + (1 : Int32)) + (1 : Int32)) + (1 : Int32)) + (1 : Int32)), vl x29, ss]) rfl ?_
                    refine XS.iloadN X28.here hx rfl (hb hby d17_82) rfl ?_
                    refine XS.aloadN X28.here hx rfl (hb hby d17_83) rfl rfl ?_
                    refine st32 _ ?_
                    refine XS.icmpNo X32.here hx rfl (hb hby d17_87) rfl (teq hc33).2 ?_
                    refine XS.iconst X32.here hx rfl (hb hby d17_90) ?_
                    exact retOut X32 hx (t := .int) (i := .ireturn) hrt rfl (Or.inl ⟨rfl, Or.inl rfl, _, rfl⟩) (hb hby d17_91) hr
                  · show Q17_0 Z  o0 o1 p1 p0 p2 h0 n0 (some (.int (-1))) T32.heap _
                    exact (⟨(-1 : Int32), rfl, N3, e32, (Or.inl (by decide))⟩)
                · obtain ⟨T32, X32, e32, st32⟩ := own_ntz X28 hx hZ hw hown e28 (g := (mkF m 74 #[va o0, vi p2, vi ((((p2 >>> ((6 : Int32) &&& 31)) + (1 : Int32)) + (1 : Int32)) + (1 : Int32)), vl x29, ss] [(.long x29), (.int (((((p2 >>> ((6 : Int32) &&& 31)) + (1 : Int32)) + (1 : Int32)) + (1 : Int32)) * (64 : Int32)))])) rfl (by rw [hml]; rfl) (rest := [(.int (((((p2 >>> ((6 : Int32) &&& 31)) + (1 : Int32)) + (1 : Int32)) + (1 : Int32)) * (64 : Int32)))]) rfl (hb hby d17_74) (by decide) (by decide) (by decide) (W := 1) (by show 2 * 0 + _ ≤ _; exact Nat.le_of_eq rfl) (by decide)
                  obtain ⟨fs, hr, hrun, hended, hW, hsame⟩ := X32.leave (v := (some (.int ((((((p2 >>> ((6 : Int32) &&& 31)) + (1 : Int32)) + (1 : Int32)) + (1 : Int32)) * (64 : Int32)) + (ntL x29))))) (fun h => by rw [hrt] at h; cases h) hlk
                  refine ⟨_, _, pre_31 _ ?_, hrun, hended, _, _, rfl, ?_, ⟨_, rfl⟩, hW, hsame.mono (by decide) (by decide)⟩
                  · show Steps p.tables e below (T28.setTop (mkF m 66 #[va o0, vi p2, vi ((((p2 >>> ((6 : Int32) &&& 31)) + (1 : Int32)) + (1 : Int32)) + (1 : Int32)), vl x29, ss] [(.int (lcmpW x29 (0 : Int64)))])) _
                    refine XS.ifNo X28.here hx rfl (hb hby d17_66) rfl (own_lc_eqF hc30).1 ?_
                    refine XS.iloadN X28.here hx rfl (hb hby d17_69) rfl ?_
                    refine XS.bipush X28.here hx rfl (hb hby d17_70) ?_
                    refine XS.imul X28.here hx rfl (hb hby d17_72) rfl ?_
                    refine XS.lloadN X28.here hx rfl (hb hby d17_73) rfl ?_
                    refine st32 _ ?_
                    refine XS.iadd X32.here hx rfl (hb hby d17_77) rfl ?_
                    exact retOut X32 hx (t := .int) (i := .ireturn) hrt rfl (Or.inl ⟨rfl, Or.inl rfl, _, rfl⟩) (hb hby d17_78) hr
                  · show Q17_0 Z  o0 o1 p1 p0 p2 h0 n0 (some (.int ((((((p2 >>> ((6 : Int32) &&& 31)) + (1 : Int32)) + (1 : Int32)) + (1 : Int32)) * (64 : Int32)) + (ntL x29)))) T32.heap _
                    exact (⟨((((((p2 >>> ((6 : Int32) &&& 31)) + (1 : Int32)) + (1 : Int32)) + (1 : Int32)) * (64 : Int32)) + (ntL x29)), rfl, N3, e32, (Or.inr (own_next1 hf (own_nxl hi3) (own_nxu hi3 hU hN) hc30))⟩)
            · obtain ⟨T25, X25, e25, st25⟩ := own_ntz X21 hx hZ hw hown e21 (g := (mkF m 74 #[va o0, vi p2, vi (((p2 >>> ((6 : Int32) &&& 31)) + (1 : Int32)) + (1 : Int32)), vl x22, ss] [(.long x22), (.int ((((p2 >>> ((6 : Int32) &&& 31)) + (1 : Int32)) + (1 : Int32)) * (64 : Int32)))])) rfl (by rw [hml]; rfl) (rest := [(.int ((((p2 >>> ((6 : Int32) &&& 31)) + (1 : Int32)) + (1 : Int32)) * (64 : Int32)))]) rfl (hb hby d17_74) (by decide) (by decide) (by decide) (W := 1) (by show 2 * 0 + _ ≤ _; exact Nat.le_of_eq rfl) (by decide)
              obtain ⟨fs, hr, hrun, hended, hW, hsame⟩ := X25.leave (v := (some (.int (((((p2 >>> ((6 : Int32) &&& 31)) + (1 : Int32)) + (1 : Int32)) * (64 : Int32)) + (ntL x22))))) (fun h => by rw [hrt] at h; cases h) hlk
              refine ⟨_, _, pre_24 _ ?_, hrun, hended, _, _, rfl, ?_, ⟨_, rfl⟩, hW, hsame.mono (by decide) (by decide)⟩
              · show Steps p.tables e below (T21.setTop (mkF m 66 #[va o0, vi p2, vi (((p2 >>> ((6 : Int32) &&& 31)) + (1 : Int32)) + (1 : Int32)), vl x22, ss] [(.int (lcmpW x22 (0 : Int64)))])) _
                refine XS.ifNo X21.here hx rfl (hb hby d17_66) rfl (own_lc_eqF hc23).1 ?_
                refine XS.iloadN X21.here hx rfl (hb hby d17_69) rfl ?_
                refine XS.bipush X21.here hx rfl (hb hby d17_70) ?_
                refine XS.imul X21.here hx rfl (hb hby d17_72) rfl ?_
                refine XS.lloadN X21.here hx rfl (hb hby d17_73) rfl ?_
                refine st25 _ ?_
                refine XS.iadd X25.here hx rfl (hb hby d17_77) rfl ?_
                exact retOut X25 hx (t := .int) (i := .ireturn) hrt rfl (Or.inl ⟨rfl, Or.inl rfl, _, rfl⟩) (hb hby d17_78) hr
              · show Q17_0 Z  o0 o1 p1 p0 p2 h0 n0 (some (.int (((((p2 >>> ((6 : Int32) &&& 31)) + (1 : Int32)) + (1 : Int32)) * (64 : Int32)) + (ntL x22)))) T25.heap _
                exact (⟨(((((p2 >>> ((6 : Int32) &&& 31)) + (1 : Int32)) + (1 : Int32)) * (64 : Int32)) + (ntL x22)), rfl, N3, e25, (Or.inr (own_next1 hf (own_nxl hi2) (own_nxu hi2 hU hN) hc23))⟩)
        · obtain ⟨T18, X18, e18, st18⟩ := own_ntz X14 hx hZ hw hown e14 (g := (mkF m 74 #[va o0, vi p2, vi ((p2 >>> ((6 : Int32) &&& 31)) + (1 : Int32)), vl x15, ss] [(.long x15), (.int (((p2 >>> ((6 : Int32) &&& 31)) + (1 : Int32)) * (64 : Int32)))])) rfl (by rw [hml]; rfl) (rest := [(.int (((p2 >>> ((6 : Int32) &&& 31)) + (1 : Int32)) * (64 : Int32)))]) rfl (hb hby d17_74) (by decide) (by decide) (by decide) (W := 1) (by show 2 * 0 + _ ≤ _; exact Nat.le_of_eq rfl) (by decide)
          obtain ⟨fs, hr, hrun, hended, hW, hsame⟩ := X18.leave (v := (some (.int ((((p2 >>> ((6 : Int32) &&& 31)) + (1 : Int32)) * (64 : Int32)) + (ntL x15))))) (fun h => by rw [hrt] at h; cases h) hlk
          refine ⟨_, _, pre_17 _ ?_, hrun, hended, _, _, rfl, ?_, ⟨_, rfl⟩, hW, hsame.mono (by decide) (by decide)⟩
          · show Steps p.tables e below (T14.setTop (mkF m 66 #[va o0, vi p2, vi ((p2 >>> ((6 : Int32) &&& 31)) + (1 : Int32)), vl x15, ss] [(.int (lcmpW x15 (0 : Int64)))])) _
            refine XS.ifNo X14.here hx rfl (hb hby d17_66) rfl (own_lc_eqF hc16).1 ?_
            refine XS.iloadN X14.here hx rfl (hb hby d17_69) rfl ?_
            refine XS.bipush X14.here hx rfl (hb hby d17_70) ?_
            refine XS.imul X14.here hx rfl (hb hby d17_72) rfl ?_
            refine XS.lloadN X14.here hx rfl (hb hby d17_73) rfl ?_
            refine st18 _ ?_
            refine XS.iadd X18.here hx rfl (hb hby d17_77) rfl ?_
            exact retOut X18 hx (t := .int) (i := .ireturn) hrt rfl (Or.inl ⟨rfl, Or.inl rfl, _, rfl⟩) (hb hby d17_78) hr
          · show Q17_0 Z  o0 o1 p1 p0 p2 h0 n0 (some (.int ((((p2 >>> ((6 : Int32) &&& 31)) + (1 : Int32)) * (64 : Int32)) + (ntL x15)))) T18.heap _
            exact (⟨((((p2 >>> ((6 : Int32) &&& 31)) + (1 : Int32)) * (64 : Int32)) + (ntL x15)), rfl, N3, e18, (Or.inr (own_next1 hf (own_nxl hi1) (own_nxu hi1 hU hN) hc16))⟩)
    · obtain ⟨T11, X11, e11, st11⟩ := own_ntz X7 hx hZ hw hown e7 (g := (mkF m 74 #[va o0, vi p2, vi (p2 >>> ((6 : Int32) &&& 31)), vl (x8 &&& ((-1 : Int64) <<< (p2 &&& 0x3f).toInt64)), ss] [(.long (x8 &&& ((-1 : Int64) <<< (p2 &&& 0x3f).toInt64))), (.int ((p2 >>> ((6 : Int32) &&& 31)) * (64 : Int32)))])) rfl (by rw [hml]; rfl) (rest := [(.int ((p2 >>> ((6 : Int32) &&& 31)) * (64 : Int32)))]) rfl (hb hby d17_74) (by decide) (by decide) (by decide) (W := 1) (by show 2 * 0 + _ ≤ _; exact Nat.le_of_eq rfl) (by decide)
      obtain ⟨fs, hr, hrun, hended, hW, hsame⟩ := X11.leave (v := (some (.int (((p2 >>> ((6 : Int32) &&& 31)) * (64 : Int32)) + (ntL (x8 &&& ((-1 : Int64) <<< (p2 &&& 0x3f).toInt64))))))) (fun h => by rw [hrt] at h; cases h) hlk
      refine ⟨_, _, pre_10 _ ?_, hrun, hended, _, _, rfl, ?_, ⟨_, rfl⟩, hW, hsame.mono (by decide) (by decide)⟩
      · show Steps p.tables e below (T7.setTop (mkF m 66 #[va o0, vi p2, vi (p2 >>> ((6 : Int32) &&& 31)), vl (x8 &&& ((-1 : Int64) <<< (p2 &&& 0x3f).toInt64)), ss] [(.int (lcmpW (x8 &&& ((-1 : Int64) <<< (p2 &&& 0x3f).toInt64)) (0 : Int64)))])) _
        refine XS.ifNo X7.here hx rfl (hb hby d17_66) rfl (own_lc_eqF hc9).1 ?_
        refine XS.iloadN X7.here hx rfl (hb hby d17_69) rfl ?_
        refine XS.bipush X7.here hx rfl (hb hby d17_70) ?_
        refine XS.imul X7.here hx rfl (hb hby d17_72) rfl ?_
        refine XS.lloadN X7.here hx rfl (hb hby d17_73) rfl ?_
        refine st11 _ ?_
        refine XS.iadd X11.here hx rfl (hb hby d17_77) rfl ?_
        exact retOut X11 hx (t := .int) (i := .ireturn) hrt rfl (Or.inl ⟨rfl, Or.inl rfl, _, rfl⟩) (hb hby d17_78) hr
      · show Q17_0 Z  o0 o1 p1 p0 p2 h0 n0 (some (.int (((p2 >>> ((6 : Int32) &&& 31)) * (64 : Int32)) + (ntL (x8 &&& ((-1 : Int64) <<< (p2 &&& 0x3f).toInt64)))))) T11.heap _
        exact (⟨(((p2 >>> ((6 : Int32) &&& 31)) * (64 : Int32)) + (ntL (x8 &&& ((-1 : Int64) <<< (p2 &&& 0x3f).toInt64)))), rfl, N3, e11, (Or.inr (own_next0 hf hc9))⟩)
  · obtain ⟨fs, hr, hrun, hended, hW, hsame⟩ := X4.leave (v := (some (.int (-1)))) (fun h => by rw [hrt] at h; cases h) hlk
    refine ⟨_, _, pre_6 _ ?_, hrun, hended, _, _, rfl, ?_, ⟨_, rfl⟩, hW, hsame.mono (by decide) (by decide)⟩
    · show Steps p.tables e below (T4.setTop (mkF m 45 #[va o0, vi p2, vi (p2 >>> ((6 : Int32) &&& 31)), uu, uu] [(.int p1), (.int (p2 >>> ((6 : Int32) &&& 31)))])) _
      refine XS.icmpNo X4.here hx rfl (hb hby d17_45) rfl (flt hc5).1 ?_
      refine XS.iconst X4.here hx rfl (hb hby d17_48) ?_
      exact retOut X4 hx (t := .int) (i := .ireturn) hrt rfl (Or.inl ⟨rfl, Or.inl rfl, _, rfl⟩) (hb hby d17_49) hr
    · show Q17_0 Z  o0 o1 p1 p0 p2 h0 n0 (some (.int (-1))) T4.heap _
      exact (⟨(-1 : Int32), rfl, N3, e4, (Or.inl (by decide))⟩)
theorem d16_107 : decode prog_47_method_5_code 107 = .ok (.istore 10, 2) := by decide +kernel
theorem d16_109 : decode prog_47_method_5_code 109 = .ok (.goto (-36), 3) := by decide +kernel
theorem d16_3 : decode prog_47_method_5_code 3 = .ok (.lload 5, 2) := by decide +kernel
theorem d16_5 : decode prog_47_method_5_code 5 = .ok (.lload_n 3, 1) := by decide +kernel
theorem d16_6 : decode prog_47_method_5_code 6 = .ok (.lcmp, 1) := by decide +kernel
theorem d16_7 : decode prog_47_method_5_code 7 = .ok (.ifCond .ge 131, 3) := by decide +kernel
theorem d16_10 : decode prog_47_method_5_code 10 = .ok (.lload 5, 2) := by decide +kernel
theorem d16_12 : decode prog_47_method_5_code 12 = .ok (.aload_n 0, 1) := by decide +kernel
theorem d16_13 : decode prog_47_method_5_code 13 = .ok (.getfield 21, 3) := by decide +kernel
theorem d16_16 : decode prog_47_method_5_code 16 = .ok (.i2l, 1) := by decide +kernel
theorem d16_17 : decode prog_47_method_5_code 17 = .ok (.lrem, 1) := by decide +kernel
theorem d16_18 : decode prog_47_method_5_code 18 = .ok (.l2i, 1) := by decide +kernel
theorem d16_19 : decode prog_47_method_5_code 19 = .ok (.istore 7, 2) := by decide +kernel
theorem d16_21 : decode prog_47_method_5_code 21 = .ok (.aload_n 0, 1) := by decide +kernel
theorem d16_22 : decode prog_47_method_5_code 22 = .ok (.getfield 21, 3) := by decide +kernel
theorem d16_25 : decode prog_47_method_5_code 25 = .ok (.i2l, 1) := by decide +kernel
theorem d16_26 : decode prog_47_method_5_code 26 = .ok (.iload 7, 2) := by decide +kernel
theorem d16_28 : decode prog_47_method_5_code 28 = .ok (.i2l, 1) := by decide +kernel
theorem d16_29 : decode prog_47_method_5_code 29 = .ok (.lload_n 3, 1) := by decide +kernel
theorem d16_30 : decode prog_47_method_5_code 30 = .ok (.lload 5, 2) := by decide +kernel
theorem d16_32 : decode prog_47_method_5_code 32 = .ok (.lsub, 1) := by decide +kernel
theorem d16_33 : decode prog_47_method_5_code 33 = .ok (.ladd, 1) := by decide +kernel
theorem d16_34 : decode prog_47_method_5_code 34 = .ok (.invokestatic 15, 3) := by decide +kernel
theorem d16_37 : decode prog_47_method_5_code 37 = .ok (.l2i, 1) := by decide +kernel
theorem d16_38 : decode prog_47_method_5_code 38 = .ok (.istore 8, 2) := by decide +kernel
theorem d16_40 : decode prog_47_method_5_code 40 = .ok (.aload_n 0, 1) := by decide +kernel
theorem d16_41 : decode prog_47_method_5_code 41 = .ok (.getfield 30, 3) := by decide +kernel
theorem d16_44 : decode prog_47_method_5_code 44 = .ok (.lload 5, 2) := by decide +kernel
theorem d16_46 : decode prog_47_method_5_code 46 = .ok (.aload_n 0, 1) := by decide +kernel
theorem d16_47 : decode prog_47_method_5_code 47 = .ok (.getfield 21, 3) := by decide +kernel
theorem d16_50 : decode prog_47_method_5_code 50 = .ok (.i2l, 1) := by decide +kernel
theorem d16_51 : decode prog_47_method_5_code 51 = .ok (.ldiv, 1) := by decide +kernel
theorem d16_52 : decode prog_47_method_5_code 52 = .ok (.l2i, 1) := by decide +kernel
theorem d16_53 : decode prog_47_method_5_code 53 = .ok (.aaload, 1) := by decide +kernel
theorem d16_54 : decode prog_47_method_5_code 54 = .ok (.astore 9, 2) := by decide +kernel
theorem d16_56 : decode prog_47_method_5_code 56 = .ok (.aload 9, 2) := by decide +kernel
theorem d16_58 : decode prog_47_method_5_code 58 = .ok (.ifnull 66, 3) := by decide +kernel
theorem d16_61 : decode prog_47_method_5_code 61 = .ok (.aload 9, 2) := by decide +kernel
theorem d16_63 : decode prog_47_method_5_code 63 = .ok (.getfield 50, 3) := by decide +kernel
theorem d16_66 : decode prog_47_method_5_code 66 = .ok (.iload 7, 2) := by decide +kernel
theorem d16_68 : decode prog_47_method_5_code 68 = .ok (.invokevirtual 87, 3) := by decide +kernel
theorem d16_71 : decode prog_47_method_5_code 71 = .ok (.istore 10, 2) := by decide +kernel
theorem d16_112 : decode prog_47_method_5_code 112 = .ok (.aload 9, 2) := by decide +kernel
theorem d16_114 : decode prog_47_method_5_code 114 = .ok (.getfield 50, 3) := by decide +kernel
theorem d16_117 : decode prog_47_method_5_code 117 = .ok (.iload 7, 2) := by decide +kernel
theorem d16_119 : decode prog_47_method_5_code 119 = .ok (.iload 8, 2) := by decide +kernel
theorem d16_121 : decode prog_47_method_5_code 121 = .ok (.invokevirtual 91, 3) := by decide +kernel
theorem d20_0 : decode jdk_92_method_24_code 0 = .ok (.iload_n 1, 1) := by decide +kernel
theorem d20_1 : decode jdk_92_method_24_code 1 = .ok (.iload_n 2, 1) := by decide +kernel
theorem d20_2 : decode jdk_92_method_24_code 2 = .ok (.invokestatic 161, 3) := by decide +kernel
theorem d21_0 : decode jdk_92_method_16_code 0 = .ok (.iload_n 0, 1) := by decide +kernel
theorem d21_1 : decode jdk_92_method_16_code 1 = .ok (.ifCond .ge 30, 3) := by decide +kernel
theorem d21_31 : decode jdk_92_method_16_code 31 = .ok (.iload_n 1, 1) := by decide +kernel
theorem d21_32 : decode jdk_92_method_16_code 32 = .ok (.ifCond .ge 30, 3) := by decide +kernel
theorem d21_62 : decode jdk_92_method_16_code 62 = .ok (.iload_n 0, 1) := by decide +kernel
theorem d21_63 : decode jdk_92_method_16_code 63 = .ok (.iload_n 1, 1) := by decide +kernel
theorem d21_64 : decode jdk_92_method_16_code 64 = .ok (.if_icmp .le 39, 3) := by decide +kernel
theorem d21_103 : decode jdk_92_method_16_code 103 = .ok (.return_, 1) := by decide +kernel
def Q21_0 (Z : State) (p0 : Int32) (p1 : Int32) (h0 : Heap) (n0 : Nat) (v : Option Value) (h : Heap) (L : List Loc) : Prop := v = none ∧ Fr n0 L ∧ h = h0
theorem rm21_0 (l : Launch) (Z : State) (a0 : Array Value) (hw : HW Z a0) (ws : List Jvm.Cond) (p0 : Int32) (p1 : Int32) (h0 : Heap) (n0 : Nat) (O0 : Old Z n0 h0) (S : SF Z ) (hr : 0 ≤ (p0).toInt ∧ (p0).toInt < (p1).toInt) :
    Pay l Z (⟨sC1, "checkRange", "(II)V"⟩ : MethodName) ws jdk_92_method_16_code 2 none #[(.int p0), (.int p1)] h0 ({ frames := 0, cells := 0, slots := 0, locals := 0 } : Room) (Q21_0 Z  p0 p1 h0 n0) := by
  refine own_body (plainFor_of_name pn_3) (L0 := #[vi p0, vi p1]) (fun _ => by first | rfl | (simp [entryFrame, mkF, argsToLocals, Value.category]; done)) ?_
  intro p e s m below meth c s₁ hrt hlk hx hby hml hZ hown0 hnm X0 e0
  have hown : s.vm.findClass sC1 = some m.cls := hown0
  have N0 := Fr.nil n0
  have K0 : Keep h0 h0 [] := Keep.refl _ _
  have hc1 : ¬ (p0 < (0 : Int32)) := (own_nlt0 hr.1)
  have hc2 : ¬ (p1 < (0 : Int32)) := (own_nlt0 (by omega))
  have hc3 : ¬ (p1 < p0) := (own_nlt (by omega))
  obtain ⟨fs, hr, hrun, hended, hW, hsame⟩ := X0.leave (v := none) (fun _ => rfl) hlk
  refine ⟨_, _, ?_, hrun, hended, _, _, rfl, ?_, ⟨_, rfl⟩, hW, hsame.mono (by decide) (by decide)⟩
  · show Steps p.tables e below (s₁.setTop (mkF m 0 #[vi p0, vi p1] [])) _
    refine XS.iloadN X0.here hx rfl (hb hby d21_0) rfl ?_
    refine XS.ifYes X0.here hx rfl (pc0 := 1) (pc' := 31) rfl (hb hby d21_1) rfl ((if0 _ _).trans (flt hc1).2.1) (by decide) (by decide) ?_
    refine XS.iloadN X0.here hx rfl (hb hby d21_31) rfl ?_
    refine XS.ifYes X0.here hx rfl (pc0 := 32) (pc' := 62) rfl (hb hby d21_32) rfl ((if0 _ _).trans (flt hc2).2.1) (by decide) (by decide) ?_
    refine XS.iloadN X0.here hx rfl (hb hby d21_62) rfl ?_
    refine XS.iloadN X0.here hx rfl (hb hby d21_63) rfl ?_
    refine XS.icmpYes X0.here hx rfl (pc0 := 64) (pc' := 103) rfl (hb hby d21_64) rfl (flt hc3).2.2.2 (by decide) (by decide) ?_
    exact X0.returnOut hx hrt (hb hby d21_103) hr
  · show Q21_0 Z  p0 p1 h0 n0 none s₁.heap _
    exact (⟨rfl, N0, e0⟩)
theorem d20_5 : decode jdk_92_method_24_code 5 = .ok (.iload_n 1, 1) := by decide +kernel
theorem d20_6 : decode jdk_92_method_24_code 6 = .ok (.iload_n 2, 1) := by decide +kernel
theorem d20_7 : decode jdk_92_method_24_code 7 = .ok (.if_icmp .ne 4, 3) := by decide +kernel
theorem d20_11 : decode jdk_92_method_24_code 11 = .ok (.iload_n 1, 1) := by decide +kernel
theorem d20_12 : decode jdk_92_method_24_code 12 = .ok (.invokestatic 52, 3) := by decide +kernel
theorem d20_15 : decode jdk_92_method_24_code 15 = .ok (.istore_n 3, 1) := by decide +kernel
theorem d20_16 : decode jdk_92_method_24_code 16 = .ok (.iload_n 3, 1) := by decide +kernel
theorem d20_17 : decode jdk_92_method_24_code 17 = .ok (.aload_n 0, 1) := by decide +kernel
theorem d20_18 : decode jdk_92_method_24_code 18 = .ok (.getfield 7, 3) := by decide +kernel
theorem d20_21 : decode jdk_92_method_24_code 21 = .ok (.if_icmp .lt 4, 3) := by decide +kernel
theorem d20_25 : decode jdk_92_method_24_code 25 = .ok (.iload_n 2, 1) := by decide +kernel
theorem d20_26 : decode jdk_92_method_24_code 26 = .ok (.iconst 1, 1) := by decide +kernel
theorem d20_27 : decode jdk_92_method_24_code 27 = .ok (.isub, 1) := by decide +kernel
theorem d20_28 : decode jdk_92_method_24_code 28 = .ok (.invokestatic 52, 3) := by decide +kernel
theorem d20_31 : decode jdk_92_method_24_code 31 = .ok (.istore 4, 2) := by decide +kernel
theorem d20_33 : decode jdk_92_method_24_code 33 = .ok (.iload 4, 2) := by decide +kernel
theorem d20_35 : decode jdk_92_method_24_code 35 = .ok (.aload_n 0, 1) := by decide +kernel
theorem d20_36 : decode jdk_92_method_24_code 36 = .ok (.getfield 7, 3) := by decide +kernel
theorem d20_39 : decode jdk_92_method_24_code 39 = .ok (.if_icmp .lt 16, 3) := by decide +kernel
theorem d20_55 : decode jdk_92_method_24_code 55 = .ok (.ldc2_w 165, 3) := by decide +kernel
theorem d20_58 : decode jdk_92_method_24_code 58 = .ok (.iload_n 1, 1) := by decide +kernel
theorem d20_59 : decode jdk_92_method_24_code 59 = .ok (.lshl, 1) := by decide +kernel
theorem d20_60 : decode jdk_92_method_24_code 60 = .ok (.lstore 5, 2) := by decide +kernel
theorem d20_62 : decode jdk_92_method_24_code 62 = .ok (.ldc2_w 165, 3) := by decide +kernel
theorem d20_65 : decode jdk_92_method_24_code 65 = .ok (.iload_n 2, 1) := by decide +kernel
theorem d20_66 : decode jdk_92_method_24_code 66 = .ok (.ineg, 1) := by decide +kernel
theorem d20_67 : decode jdk_92_method_24_code 67 = .ok (.lushr, 1) := by decide +kernel
theorem d20_68 : decode jdk_92_method_24_code 68 = .ok (.lstore 7, 2) := by decide +kernel
theorem d20_70 : decode jdk_92_method_24_code 70 = .ok (.iload_n 3, 1) := by decide +kernel
theorem d20_71 : decode jdk_92_method_24_code 71 = .ok (.iload 4, 2) := by decide +kernel
theorem d20_73 : decode jdk_92_method_24_code 73 = .ok (.if_icmp .ne 24, 3) := by decide +kernel
theorem d20_76 : decode jdk_92_method_24_code 76 = .ok (.aload_n 0, 1) := by decide +kernel
theorem d20_77 : decode jdk_92_method_24_code 77 = .ok (.getfield 11, 3) := by decide +kernel
theorem d20_80 : decode jdk_92_method_24_code 80 = .ok (.iload_n 3, 1) := by decide +kernel
theorem d20_81 : decode jdk_92_method_24_code 81 = .ok (.dup2, 1) := by decide +kernel
theorem d20_82 : decode jdk_92_method_24_code 82 = .ok (.laload, 1) := by decide +kernel
theorem d20_83 : decode jdk_92_method_24_code 83 = .ok (.lload 5, 2) := by decide +kernel
theorem d20_85 : decode jdk_92_method_24_code 85 = .ok (.lload 7, 2) := by decide +kernel
theorem d20_87 : decode jdk_92_method_24_code 87 = .ok (.land, 1) := by decide +kernel
theorem d20_88 : decode jdk_92_method_24_code 88 = .ok (.ldc2_w 165, 3) := by decide +kernel
theorem d20_91 : decode jdk_92_method_24_code 91 = .ok (.lxor, 1) := by decide +kernel
theorem d20_92 : decode jdk_92_method_24_code 92 = .ok (.land, 1) := by decide +kernel
theorem d20_93 : decode jdk_92_method_24_code 93 = .ok (.lastore, 1) := by decide +kernel
theorem d20_94 : decode jdk_92_method_24_code 94 = .ok (.goto 60, 3) := by decide +kernel
theorem d20_154 : decode jdk_92_method_24_code 154 = .ok (.aload_n 0, 1) := by decide +kernel
theorem d20_155 : decode jdk_92_method_24_code 155 = .ok (.invokevirtual 158, 3) := by decide +kernel
theorem d22_0 : decode jdk_92_method_3_code 0 = .ok (.aload_n 0, 1) := by decide +kernel
theorem d22_1 : decode jdk_92_method_3_code 1 = .ok (.getfield 7, 3) := by decide +kernel
theorem d22_4 : decode jdk_92_method_3_code 4 = .ok (.iconst 1, 1) := by decide +kernel
theorem d22_5 : decode jdk_92_method_3_code 5 = .ok (.isub, 1) := by decide +kernel
theorem d22_6 : decode jdk_92_method_3_code 6 = .ok (.istore_n 1, 1) := by decide +kernel
theorem d22_7 : decode jdk_92_method_3_code 7 = .ok (.iload_n 1, 1) := by decide +kernel
theorem d22_8 : decode jdk_92_method_3_code 8 = .ok (.ifCond .lt 23, 3) := by decide +kernel
theorem d22_31 : decode jdk_92_method_3_code 31 = .ok (.aload_n 0, 1) := by decide +kernel
theorem d22_32 : decode jdk_92_method_3_code 32 = .ok (.iload_n 1, 1) := by decide +kernel
theorem d22_33 : decode jdk_92_method_3_code 33 = .ok (.iconst 1, 1) := by decide +kernel
theorem d22_34 : decode jdk_92_method_3_code 34 = .ok (.iadd, 1) := by decide +kernel
theorem d22_35 : decode jdk_92_method_3_code 35 = .ok (.putfield 7, 3) := by decide +kernel
theorem d22_38 : decode jdk_92_method_3_code 38 = .ok (.return_, 1) := by decide +kernel
theorem d22_11 : decode jdk_92_method_3_code 11 = .ok (.aload_n 0, 1) := by decide +kernel
theorem d22_12 : decode jdk_92_method_3_code 12 = .ok (.getfield 11, 3) := by decide +kernel
theorem d22_15 : decode jdk_92_method_3_code 15 = .ok (.iload_n 1, 1) := by decide +kernel
theorem d22_16 : decode jdk_92_method_3_code 16 = .ok (.laload, 1) := by decide +kernel
theorem d22_17 : decode jdk_92_method_3_code 17 = .ok (.lconst 0, 1) := by decide +kernel
theorem d22_18 : decode jdk_92_method_3_code 18 = .ok (.lcmp, 1) := by decide +kernel
theorem d22_19 : decode jdk_92_method_3_code 19 = .ok (.ifCond .eq 6, 3) := by decide +kernel
theorem d22_25 : decode jdk_92_method_3_code 25 = .ok (.iinc 1 (-1), 3) := by decide +kernel
theorem d22_28 : decode jdk_92_method_3_code 28 = .ok (.goto (-21), 3) := by decide +kernel
theorem d22_22 : decode jdk_92_method_3_code 22 = .ok (.goto 9, 3) := by decide +kernel
def Q22_0 (Z : State) (o0 : Addr) (o1 : Addr) (p1 : Int32) (p0 : Int32) (h0 : Heap) (n0 : Nat) (v : Option Value) (h : Heap) (L : List Loc) : Prop := ∃ (u : Int32), v = none ∧ Fr n0 L ∧ Keep h0 h [o0] ∧ Exa Z h o0 sC1 ∧ Fld Z h o0 sC1 "words" "[J" (.ref o1) ∧ Fld Z h o0 sC1 "wordsInUse" "I" (.int u) ∧ RU u p0
theorem rm22_0 (l : Launch) (Z : State) (a0 : Array Value) (hw : HW Z a0) (ws : List Jvm.Cond) (o0 : Addr) (o1 : Addr) (p1 : Int32) (p0 : Int32) (h0 : Heap) (n0 : Nat) (O0 : Old Z n0 h0) (S : SF Z ) (E_o0 : Exa Z h0 o0 sC1) (F_words_o0 : Fld Z h0 o0 sC1 "words" "[J" (.ref o1)) (F_wordsInUse_o0 : Fld Z h0 o0 sC1 "wordsInUse" "I" (.int p1)) (V_o1 : LA Z h0 o1 p0) (g_o0 : n0 ≤ o0) (hU : RU p1 p0) (hN : NW p0) :
    Pay l Z My22 ws jdk_92_method_3_code 2 none #[(.ref o0)] h0 ({ frames := 0, cells := 0, slots := 0, locals := 0 } : Room) (Q22_0 Z  o0 o1 p1 p0 h0 n0) := by
  refine own_body (plainFor_of_name pn_3) (L0 := #[va o0, uu]) (fun _ => by first | rfl | (simp [entryFrame, mkF, argsToLocals, Value.category]; done)) ?_
  intro p e s m below meth c s₁ hrt hlk hx hby hml hZ hown0 hnm X0 e0
  have hown : s.vm.findClass sC1 = some m.cls := hown0
  have N0 := Fr.nil n0
  have K0 : Keep h0 h0 [o0] := Keep.refl _ _
  have hi0 := own_rc0 hU hN
  obtain ⟨T1, X1, e1, st1⟩ := getF X0 hx hZ hown (host := "") (Or.inl (ww hw 60 rfl)) Via.refl e0 F_wordsInUse_o0 (g := (mkF m 1 #[va o0, uu] [(.ref o0)])) rfl rfl (hb hby d22_1)
  have pre_3 : ∀ t, Steps p.tables e below (T1.setTop (mkF m 8 #[va o0, vi (p1 - (1 : Int32))] [(.int (p1 - (1 : Int32)))])) t → Steps p.tables e below (s₁.setTop (mkF m 0 #[va o0, uu] [])) t := fun t k => (by
    show Steps p.tables e below (s₁.setTop (mkF m 0 #[va o0, uu] [])) _
    refine XS.aloadN X0.here hx rfl (hb hby d22_0) rfl rfl ?_
    refine st1 _ ?_
    refine XS.iconst X1.here hx rfl (hb hby d22_4) ?_
    refine XS.isub X1.here hx rfl (hb hby d22_5) rfl ?_
    refine XS.istoreN X1.here hx rfl (hb hby d22_6) rfl (l' := #[va o0, vi (p1 - (1 : Int32))]) rfl ?_
    refine XS.iloadN X1.here hx rfl (hb hby d22_7) rfl ?_
    exact k)
  by_cases hc2 : (p1 - (1 : Int32)) < (0 : Int32)
  · obtain ⟨T4, h4, X4, e4, W4, st4⟩ := putF X1 hx hZ hown (host := "") (Or.inl (ww hw 60 rfl)) Via.refl e1 F_wordsInUse_o0 E_o0 (Or.inl (ww hw 61 rfl)) (ww hw 54 rfl) (ty := .int) (by decide) rfl rfl (g := (mkF m 35 #[va o0, vi (p1 - (1 : Int32))] [(.int ((p1 - (1 : Int32)) + (1 : Int32))), (.ref o0)])) rfl rfl (hb hby d22_35)
    have Fw4 := F_wordsInUse_o0.same W4
    have O4 := O0.wr W4 g_o0
    have K4 : Keep h0 h4 [o0] := K0.wr W4 (Or.inl (List.mem_of_getElem? (i := 0) rfl))
    have N4 := Fr.snoc X4 N0 g_o0
    obtain ⟨fs, hr, hrun, hended, hW, hsame⟩ := X4.leave (v := none) (fun _ => rfl) hlk
    have fc5 := (E_o0.wr W4)
    have fc6 := (F_words_o0.other W4 (Or.inr (slot_ne (Or.inl (ww hw 74 rfl)) (Or.inl (ww hw 61 rfl)) (by decide) (t := (.array .long)) (t' := .int) (by decide) (by decide))))
    refine ⟨_, _, pre_3 _ ?_, hrun, hended, _, _, rfl, ?_, ⟨_, rfl⟩, hW, hsame.mono (by decide) (by decide)⟩
    · show Steps p.tables e below (T1.setTop (mkF m 8 #[va o0, vi (p1 - (1 : Int32))] [(.int (p1 - (1 : Int32)))])) _
      refine XS.ifYes X1.here hx rfl (pc0 := 8) (pc' := 31) rfl (hb hby d22_8) rfl ((if0 _ _).trans (tlt hc2).1) (by decide) (by decide) ?_
      refine XS.aloadN X1.here hx rfl (hb hby d22_31) rfl rfl ?_
      refine XS.iloadN X1.here hx rfl (hb hby d22_32) rfl ?_
      refine XS.iconst X1.here hx rfl (hb hby d22_33) ?_
      refine XS.iadd X1.here hx rfl (hb hby d22_34) rfl ?_
      refine st4 _ ?_
      exact X4.returnOut hx hrt (hb hby d22_38) hr
    · show Q22_0 Z  o0 o1 p1 p0 h0 n0 none T4.heap _
      rw [e4]; exact ⟨((p1 - (1 : Int32)) + (1 : Int32)), rfl, N4, K4, fc5, fc6, Fw4, (own_rcE hi0 hU)⟩
  · obtain ⟨T4, X4, e4, st4⟩ := getF X1 hx hZ hown (host := "") (Or.inl (ww hw 73 rfl)) Via.refl e1 F_words_o0 (g := (mkF m 12 #[va o0, vi (p1 - (1 : Int32))] [(.ref o0)])) rfl rfl (hb hby d22_12)
    obtain ⟨x5, st5⟩ := own_laload X4 hx hZ e4 V_o1 (own_rcb hi0 hc2 hU) (g := (mkF m 16 #[va o0, vi (p1 - (1 : Int32))] [(.int (p1 - (1 : Int32))), (.ref o1)])) rfl rfl (hb hby d22_16)
    have pre_7 : ∀ t, Steps p.tables e below (T4.setTop (mkF m 19 #[va o0, vi (p1 - (1 : Int32))] [(.int (lcmpW x5 (0 : Int64)))])) t → Steps p.tables e below (s₁.setTop (mkF m 0 #[va o0, uu] [])) t := fun t k => pre_3 t (by
      show Steps p.tables e below (T1.setTop (mkF m 8 #[va o0, vi (p1 - (1 : Int32))] [(.int (p1 - (1 : Int32)))])) _
      refine XS.ifNo X1.here hx rfl (hb hby d22_8) rfl ((if0 _ _).trans (flt hc2).1) ?_
      refine XS.aloadN X1.here hx rfl (hb hby d22_11) rfl rfl ?_
      refine st4 _ ?_
      refine XS.iloadN X4.here hx rfl (hb hby d22_15) rfl ?_
      refine st5 _ ?_
      refine XS.lconst X4.here hx rfl (hb hby d22_17) ?_
      refine XS.lcmp X4.here hx rfl (hb hby d22_18) rfl ?_
      exact k)
    by_cases hc6 : x5 = (0 : Int64)
    · have hi1 := own_rcS hi0 hc2
      have pre_9 : ∀ t, Steps p.tables e below (T4.setTop (mkF m 8 #[va o0, vi ((p1 - (1 : Int32)) + (-1 : Int32))] [(.int ((p1 - (1 : Int32)) + (-1 : Int32)))])) t → Steps p.tables e below (s₁.setTop (mkF m 0 #[va o0, uu] [])) t := fun t k => pre_7 t (by
        show Steps p.tables e below (T4.setTop (mkF m 19 #[va o0, vi (p1 - (1 : Int32))] [(.int (lcmpW x5 (0 : Int64)))])) _
        refine XS.ifYes X4.here hx rfl (pc0 := 19) (pc' := 25) rfl (hb hby d22_19) rfl (own_lc_eqT hc6).1 (by decide) (by decide) ?_
        refine XS.iinc X4.here hx rfl (hb hby d22_25) rfl (l' := #[va o0, vi ((p1 - (1 : Int32)) + (-1 : Int32))]) rfl ?_
        refine XS.goto X4.here hx rfl (pc0 := 28) (pc' := 7) rfl (hb hby d22_28) (by decide) (by decide) ?_
        refine XS.iloadN X4.here hx rfl (hb hby d22_7) rfl ?_
        exact k)
      by_cases hc8 : ((p1 - (1 : Int32)) + (-1 : Int32)) < (0 : Int32)
      · obtain ⟨T10, h10, X10, e10, W10, st10⟩ := putF X4 hx hZ hown (host := "") (Or.inl (ww hw 60 rfl)) Via.refl e4 F_wordsInUse_o0 E_o0 (Or.inl (ww hw 61 rfl)) (ww hw 54 rfl) (ty := .int) (by decide) rfl rfl (g := (mkF m 35 #[va o0, vi ((p1 - (1 : Int32)) + (-1 : Int32))] [(.int (((p1 - (1 : Int32)) + (-1 : Int32)) + (1 : Int32))), (.ref o0)])) rfl rfl (hb hby d22_35)
        have Fw10 := F_wordsInUse_o0.same W10
        have O10 := O0.wr W10 g_o0
        have K10 : Keep h0 h10 [o0] := K0.wr W10 (Or.inl (List.mem_of_getElem? (i := 0) rfl))
        have N10 := Fr.snoc X10 N0 g_o0
        obtain ⟨fs, hr, hrun, hended, hW, hsame⟩ := X10.leave (v := none) (fun _ => rfl) hlk
        have fc11 := (E_o0.wr W10)
        have fc12 := (F_words_o0.other W10 (Or.inr (slot_ne (Or.inl (ww hw 74 rfl)) (Or.inl (ww hw 61 rfl)) (by decide) (t := (.array .long)) (t' := .int) (by decide) (by decide))))
        refine ⟨_, _, pre_9 _ ?_, hrun, hended, _, _, rfl, ?_, ⟨_, rfl⟩, hW, hsame.mono (by decide) (by decide)⟩
        · show Steps p.tables e below (T4.setTop (mkF m 8 #[va o0, vi ((p1 - (1 : Int32)) + (-1 : Int32))] [(.int ((p1 - (1 : Int32)) + (-1 : Int32)))])) _
          refine XS.ifYes X4.here hx rfl (pc0 := 8) (pc' := 31) rfl (hb hby d22_8) rfl ((if0 _ _).trans (tlt hc8).1) (by decide) (by decide) ?_
          refine XS.aloadN X4.here hx rfl (hb hby d22_31) rfl rfl ?_
          refine XS.iloadN X4.here hx rfl (hb hby d22_32) rfl ?_
          refine XS.iconst X4.here hx rfl (hb hby d22_33) ?_
          refine XS.iadd X4.here hx rfl (hb hby d22_34) rfl ?_
          refine st10 _ ?_
          exact X10.returnOut hx hrt (hb hby d22_38) hr
        · show Q22_0 Z  o0 o1 p1 p0 h0 n0 none T10.heap _
          rw [e10]; exact ⟨(((p1 - (1 : Int32)) + (-1 : Int32)) + (1 : Int32)), rfl, N10, K10, fc11, fc12, Fw10, (own_rcE hi1 hU)⟩
      · obtain ⟨T10, X10, e10, st10⟩ := getF X4 hx hZ hown (host := "") (Or.inl (ww hw 73 rfl)) Via.refl e4 F_words_o0 (g := (mkF m 12 #[va o0, vi ((p1 - (1 : Int32)) + (-1 : Int32))] [(.ref o0)])) rfl rfl (hb hby d22_12)
        obtain ⟨x11, st11⟩ := own_laload X10 hx hZ e10 V_o1 (own_rcb hi1 hc8 hU) (g := (mkF m 16 #[va o0, vi ((p1 - (1 : Int32)) + (-1 : Int32))] [(.int ((p1 - (1 : Int32)) + (-1 : Int32))), (.ref o1)])) rfl rfl (hb hby d22_16)
        have pre_13 : ∀ t, Steps p.tables e below (T10.setTop (mkF m 19 #[va o0, vi ((p1 - (1 : Int32)) + (-1 : Int32))] [(.int (lcmpW x11 (0 : Int64)))])) t → Steps p.tables e below (s₁.setTop (mkF m 0 #[va o0, uu] [])) t := fun t k => pre_9 t (by
          show Steps p.tables e below (T4.setTop (mkF m 8 #[va o0, vi ((p1 - (1 : Int32)) + (-1 : Int32))] [(.int ((p1 - (1 : Int32)) + (-1 : Int32)))])) _
          refine XS.ifNo X4.here hx rfl (hb hby d22_8) rfl ((if0 _ _).trans (flt hc8).1) ?_
          refine XS.aloadN X4.here hx rfl (hb hby d22_11) rfl rfl ?_
          refine st10 _ ?_
          refine XS.iloadN X10.here hx rfl (hb hby d22_15) rfl ?_
          refine st11 _ ?_
          refine XS.lconst X10.here hx rfl (hb hby d22_17) ?_
          refine XS.lcmp X10.here hx rfl (hb hby d22_18) rfl ?_
          exact k)
        by_cases hc12 : x11 = (0 : Int64)
        · have hi2 := own_rcS hi1 hc8
          have pre_15 : ∀ t, Steps p.tables e below (T10.setTop (mkF m 8 #[va o0, vi (((p1 - (1 : Int32)) + (-1 : Int32)) + (-1 : Int32))] [(.int (((p1 - (1 : Int32)) + (-1 : Int32)) + (-1 : Int32)))])) t → Steps p.tables e below (s₁.setTop (mkF m 0 #[va o0, uu] [])) t := fun t k => pre_13 t (by
            show Steps p.tables e below (T10.setTop (mkF m 19 #[va o0, vi ((p1 - (1 : Int32)) + (-1 : Int32))] [(.int (lcmpW x11 (0 : Int64)))])) _
            refine XS.ifYes X10.here hx rfl (pc0 := 19) (pc' := 25) rfl (hb hby d22_19) rfl (own_lc_eqT hc12).1 (by decide) (by decide) ?_
            refine XS.iinc X10.here hx rfl (hb hby d22_25) rfl (l' := #[va o0, vi (((p1 - (1 : Int32)) + (-1 : Int32)) + (-1 : Int32))]) rfl ?_
            refine XS.goto X10.here hx rfl (pc0 := 28) (pc' := 7) rfl (hb hby d22_28) (by decide) (by decide) ?_
            refine XS.iloadN X10.here hx rfl (hb hby d22_7) rfl ?_
            exact k)
          by_cases hc14 : (((p1 - (1 : Int32)) + (-1 : Int32)) + (-1 : Int32)) < (0 : Int32)
          · obtain ⟨T16, h16, X16, e16, W16, st16⟩ := putF X10 hx hZ hown (host := "") (Or.inl (ww hw 60 rfl)) Via.refl e10 F_wordsInUse_o0 E_o0 (Or.inl (ww hw 61 rfl)) (ww hw 54 rfl) (ty := .int) (by decide) rfl rfl (g := (mkF m 35 #[va o0, vi (((p1 - (1 : Int32)) + (-1 : Int32)) + (-1 : Int32))] [(.int ((((p1 - (1 : Int32)) + (-1 : Int32)) + (-1 : Int32)) + (1 : Int32))), (.ref o0)])) rfl rfl (hb hby d22_35)
            have Fw16 := F_wordsInUse_o0.same W16
            have O16 := O0.wr W16 g_o0
            have K16 : Keep h0 h16 [o0] := K0.wr W16 (Or.inl (List.mem_of_getElem? (i := 0) rfl))
            have N16 := Fr.snoc X16 N0 g_o0
            obtain ⟨fs, hr, hrun, hended, hW, hsame⟩ := X16.leave (v := none) (fun _ => rfl) hlk
            have fc17 := (E_o0.wr W16)
            have fc18 := (F_words_o0.other W16 (Or.inr (slot_ne (Or.inl (ww hw 74 rfl)) (Or.inl (ww hw 61 rfl)) (by decide) (t := (.array .long)) (t' := .int) (by decide) (by decide))))
            refine ⟨_, _, pre_15 _ ?_, hrun, hended, _, _, rfl, ?_, ⟨_, rfl⟩, hW, hsame.mono (by decide) (by decide)⟩
            · show Steps p.tables e below (T10.setTop (mkF m 8 #[va o0, vi (((p1 - (1 : Int32)) + (-1 : Int32)) + (-1 : Int32))] [(.int (((p1 - (1 : Int32)) + (-1 : Int32)) + (-1 : Int32)))])) _
              refine XS.ifYes X10.here hx rfl (pc0 := 8) (pc' := 31) rfl (hb hby d22_8) rfl ((if0 _ _).trans (tlt hc14).1) (by decide) (by decide) ?_
              refine XS.aloadN X10.here hx rfl (hb hby d22_31) rfl rfl ?_
              refine XS.iloadN X10.here hx rfl (hb hby d22_32) rfl ?_
              refine XS.iconst X10.here hx rfl (hb hby d22_33) ?_
              refine XS.iadd X10.here hx rfl (hb hby d22_34) rfl ?_
              refine st16 _ ?_
              exact X16.returnOut hx hrt (hb hby d22_38) hr
            · show Q22_0 Z  o0 o1 p1 p0 h0 n0 none T16.heap _
              rw [e16]; exact ⟨((((p1 - (1 : Int32)) + (-1 : Int32)) + (-1 : Int32)) + (1 : Int32)), rfl, N16, K16, fc17, fc18, Fw16, (own_rcE hi2 hU)⟩
          · obtain ⟨T16, X16, e16, st16⟩ := getF X10 hx hZ hown (host := "") (Or.inl (ww hw 73 rfl)) Via.refl e10 F_words_o0 (g := (mkF m 12 #[va o0, vi (((p1 - (1 : Int32)) + (-1 : Int32)) + (-1 : Int32))] [(.ref o0)])) rfl rfl (hb hby d22_12)
            obtain ⟨x17, st17⟩ := own_laload X16 hx hZ e16 V_o1 (own_rcb hi2 hc14 hU) (g := (mkF m 16 #[va o0, vi (((p1 - (1 : Int32)) + (-1 : Int32)) + (-1 : Int32))] [(.int (((p1 - (1 : Int32)) + (-1 : Int32)) + (-1 : Int32))), (.ref o1)])) rfl rfl (hb hby d22_16)
            have pre_19 : ∀ t, Steps p.tables e below (T16.setTop (mkF m 19 #[va o0, vi (((p1 - (1 : Int32)) + (-1 : Int32)) + (-1 : Int32))] [(.int (lcmpW x17 (0 : Int64)))])) t → Steps p.tables e below (s₁.setTop (mkF m 0 #[va o0, uu] [])) t := fun t k => pre_15 t (by
              show Steps p.tables e below (T10.setTop (mkF m 8 #[va o0, vi (((p1 - (1 : Int32)) + (-1 : Int32)) + (-1 : Int32))] [(.int (((p1 - (1 : Int32)) + (-1 : Int32)) + (-1 : Int32)))])) _
              refine XS.ifNo X10.here hx rfl (hb hby d22_8) rfl ((if0 _ _).trans (flt hc14).1) ?_
              refine XS.aloadN X10.here hx rfl (hb hby d22_11) rfl rfl ?_
              refine st16 _ ?_
              refine XS.iloadN X16.here hx rfl (hb hby d22_15) rfl ?_
              refine st17 _ ?_
              refine XS.lconst X16.here hx rfl (hb hby d22_17) ?_
              refine XS.lcmp X16.here hx rfl (hb hby d22_18) rfl ?_
              exact k)
            by_cases hc18 : x17 = (0 : Int64)
            · have hi3 := own_rcS hi2 hc14
              have pre_21 : ∀ t, Steps p.tables e below (T16.setTop (mkF m 8 #[va o0, vi ((((p1 - (1 : Int32)) + (-1 : Int32)) + (-1 : Int32)) + (-1 : Int32))] [(.int ((((p1 - (1 : Int32)) + (-1 : Int32)) + (-1 : Int32)) + (-1 : Int32)))])) t → Steps p.tables e below (s₁.setTop (mkF m 0 #[va o0, uu] [])) t := fun t k => pre_19 t (by
                show Steps p.tables e below (T16.setTop (mkF m 19 #[va o0, vi (((p1 - (1 : Int32)) + (-1 : Int32)) + (-1 : Int32))] [(.int (lcmpW x17 (0 : Int64)))])) _
                refine XS.ifYes X16.here hx rfl (pc0 := 19) (pc' := 25) rfl (hb hby d22_19) rfl (own_lc_eqT hc18).1 (by decide) (by decide) ?_
                refine XS.iinc X16.here hx rfl (hb hby d22_25) rfl (l' := #[va o0, vi ((((p1 - (1 : Int32)) + (-1 : Int32)) + (-1 : Int32)) + (-1 : Int32))]) rfl ?_
                refine XS.goto X16.here hx rfl (pc0 := 28) (pc' := 7) rfl (hb hby d22_28) (by decide) (by decide) ?_
                refine XS.iloadN X16.here hx rfl (hb hby d22_7) rfl ?_
                exact k)
              by_cases hc20 : ((((p1 - (1 : Int32)) + (-1 : Int32)) + (-1 : Int32)) + (-1 : Int32)) < (0 : Int32)
              · obtain ⟨T22, h22, X22, e22, W22, st22⟩ := putF X16 hx hZ hown (host := "") (Or.inl (ww hw 60 rfl)) Via.refl e16 F_wordsInUse_o0 E_o0 (Or.inl (ww hw 61 rfl)) (ww hw 54 rfl) (ty := .int) (by decide) rfl rfl (g := (mkF m 35 #[va o0, vi ((((p1 - (1 : Int32)) + (-1 : Int32)) + (-1 : Int32)) + (-1 : Int32))] [(.int (((((p1 - (1 : Int32)) + (-1 : Int32)) + (-1 : Int32)) + (-1 : Int32)) + (1 : Int32))), (.ref o0)])) rfl rfl (hb hby d22_35)
                have Fw22 := F_wordsInUse_o0.same W22
                have O22 := O0.wr W22 g_o0
                have K22 : Keep h0 h22 [o0] := K0.wr W22 (Or.inl (List.mem_of_getElem? (i := 0) rfl))
                have N22 := Fr.snoc X22 N0 g_o0
                obtain ⟨fs, hr, hrun, hended, hW, hsame⟩ := X22.leave (v := none) (fun _ => rfl) hlk
                have fc23 := (E_o0.wr W22)
                have fc24 := (F_words_o0.other W22 (Or.inr (slot_ne (Or.inl (ww hw 74 rfl)) (Or.inl (ww hw 61 rfl)) (by decide) (t := (.array .long)) (t' := .int) (by decide) (by decide))))
                refine ⟨_, _, pre_21 _ ?_, hrun, hended, _, _, rfl, ?_, ⟨_, rfl⟩, hW, hsame.mono (by decide) (by decide)⟩
                · show Steps p.tables e below (T16.setTop (mkF m 8 #[va o0, vi ((((p1 - (1 : Int32)) + (-1 : Int32)) + (-1 : Int32)) + (-1 : Int32))] [(.int ((((p1 - (1 : Int32)) + (-1 : Int32)) + (-1 : Int32)) + (-1 : Int32)))])) _
                  refine XS.ifYes X16.here hx rfl (pc0 := 8) (pc' := 31) rfl (hb hby d22_8) rfl ((if0 _ _).trans (tlt hc20).1) (by decide) (by decide) ?_
                  refine XS.aloadN X16.here hx rfl (hb hby d22_31) rfl rfl ?_
                  refine XS.iloadN X16.here hx rfl (hb hby d22_32) rfl ?_
                  refine XS.iconst X16.here hx rfl (hb hby d22_33) ?_
                  refine XS.iadd X16.here hx rfl (hb hby d22_34) rfl ?_
                  refine st22 _ ?_
                  exact X22.returnOut hx hrt (hb hby d22_38) hr
                · show Q22_0 Z  o0 o1 p1 p0 h0 n0 none T22.heap _
                  rw [e22]; exact ⟨(((((p1 - (1 : Int32)) + (-1 : Int32)) + (-1 : Int32)) + (-1 : Int32)) + (1 : Int32)), rfl, N22, K22, fc23, fc24, Fw22, (own_rcE hi3 hU)⟩
              · obtain ⟨T22, X22, e22, st22⟩ := getF X16 hx hZ hown (host := "") (Or.inl (ww hw 73 rfl)) Via.refl e16 F_words_o0 (g := (mkF m 12 #[va o0, vi ((((p1 - (1 : Int32)) + (-1 : Int32)) + (-1 : Int32)) + (-1 : Int32))] [(.ref o0)])) rfl rfl (hb hby d22_12)
                obtain ⟨x23, st23⟩ := own_laload X22 hx hZ e22 V_o1 (own_rcb hi3 hc20 hU) (g := (mkF m 16 #[va o0, vi ((((p1 - (1 : Int32)) + (-1 : Int32)) + (-1 : Int32)) + (-1 : Int32))] [(.int ((((p1 - (1 : Int32)) + (-1 : Int32)) + (-1 : Int32)) + (-1 : Int32))), (.ref o1)])) rfl rfl (hb hby d22_16)
                have pre_25 : ∀ t, Steps p.tables e below (T22.setTop (mkF m 19 #[va o0, vi ((((p1 - (1 : Int32)) + (-1 : Int32)) + (-1 : Int32)) + (-1 : Int32))] [(.int (lcmpW x23 (0 : Int64)))])) t → Steps p.tables e below (s₁.setTop (mkF m 0 #[va o0, uu] [])) t := fun t k => pre_21 t (by
                  show Steps p.tables e below (T16.setTop (mkF m 8 #[va o0, vi ((((p1 - (1 : Int32)) + (-1 : Int32)) + (-1 : Int32)) + (-1 : Int32))] [(.int ((((p1 - (1 : Int32)) + (-1 : Int32)) + (-1 : Int32)) + (-1 : Int32)))])) _
                  refine XS.ifNo X16.here hx rfl (hb hby d22_8) rfl ((if0 _ _).trans (flt hc20).1) ?_
                  refine XS.aloadN X16.here hx rfl (hb hby d22_11) rfl rfl ?_
                  refine st22 _ ?_
                  refine XS.iloadN X22.here hx rfl (hb hby d22_15) rfl ?_
                  refine st23 _ ?_
                  refine XS.lconst X22.here hx rfl (hb hby d22_17) ?_
                  refine XS.lcmp X22.here hx rfl (hb hby d22_18) rfl ?_
                  exact k)
                by_cases hc24 : x23 = (0 : Int64)
                · have hi4 := own_rcS hi3 hc20
                  have hc26 : (((((p1 - (1 : Int32)) + (-1 : Int32)) + (-1 : Int32)) + (-1 : Int32)) + (-1 : Int32)) < (0 : Int32) := (own_rc4 hi4 hN hU)
                  obtain ⟨T27, h27, X27, e27, W27, st27⟩ := putF X22 hx hZ hown (host := "") (Or.inl (ww hw 60 rfl)) Via.refl e22 F_wordsInUse_o0 E_o0 (Or.inl (ww hw 61 rfl)) (ww hw 54 rfl) (ty := .int) (by decide) rfl rfl (g := (mkF m 35 #[va o0, vi (((((p1 - (1 : Int32)) + (-1 : Int32)) + (-1 : Int32)) + (-1 : Int32)) + (-1 : Int32))] [(.int ((((((p1 - (1 : Int32)) + (-1 : Int32)) + (-1 : Int32)) + (-1 : Int32)) + (-1 : Int32)) + (1 : Int32))), (.ref o0)])) rfl rfl (hb hby d22_35)
                  have Fw27 := F_wordsInUse_o0.same W27
                  have O27 := O0.wr W27 g_o0
                  have K27 : Keep h0 h27 [o0] := K0.wr W27 (Or.inl (List.mem_of_getElem? (i := 0) rfl))
                  have N27 := Fr.snoc X27 N0 g_o0
                  obtain ⟨fs, hr, hrun, hended, hW, hsame⟩ := X27.leave (v := none) (fun _ => rfl) hlk
                  have fc28 := (E_o0.wr W27)
                  have fc29 := (F_words_o0.other W27 (Or.inr (slot_ne (Or.inl (ww hw 74 rfl)) (Or.inl (ww hw 61 rfl)) (by decide) (t := (.array .long)) (t' := .int) (by decide) (by decide))))
                  refine ⟨_, _, pre_25 _ ?_, hrun, hended, _, _, rfl, ?_, ⟨_, rfl⟩, hW, hsame.mono (by decide) (by decide)⟩
                  · show Steps p.tables e below (T22.setTop (mkF m 19 #[va o0, vi ((((p1 - (1 : Int32)) + (-1 : Int32)) + (-1 : Int32)) + (-1 : Int32))] [(.int (lcmpW x23 (0 : Int64)))])) _
                    refine XS.ifYes X22.here hx rfl (pc0 := 19) (pc' := 25) rfl (hb hby d22_19) rfl (own_lc_eqT hc24).1 (by decide) (by decide) ?_
                    refine XS.iinc X22.here hx rfl (hb hby d22_25) rfl (l' := #[va o0, vi (((((p1 - (1 : Int32)) + (-1 : Int32)) + (-1 : Int32)) + (-1 : Int32)) + (-1 : Int32))]) rfl ?_
                    refine XS.goto X22.here hx rfl (pc0 := 28) (pc' := 7) rfl (hb hby d22_28) (by decide) (by decide) ?_
                    refine XS.iloadN X22.here hx rfl (hb hby d22_7) rfl ?_
                    refine XS.ifYes X22.here hx rfl (pc0 := 8) (pc' := 31) rfl (hb hby d22_8) rfl ((if0 _ _).trans (tlt hc26).1) (by decide) (by decide) ?_
                    refine XS.aloadN X22.here hx rfl (hb hby d22_31) rfl rfl ?_
                    refine XS.iloadN X22.here hx rfl (hb hby d22_32) rfl ?_
                    refine XS.iconst X22.here hx rfl (hb hby d22_33) ?_
                    show Steps p.tables e below (T22.setTop (mkF m 34 #[va o0, vi (((((p1 - (1 : Int32)) + (-1 : Int32)) + (-1 : Int32)) + (-1 : Int32)) + (-1 : Int32))] [(.int 1), (.int (((((p1 - (1 : Int32)) + (-1 : Int32)) + (-1 : Int32)) + (-1 : Int32)) + (-1 : Int32))), (.ref o0)])) _
                    refine XS.iadd X22.here hx rfl (hb hby d22_34) rfl ?_
                    refine st27 _ ?_
                    exact X27.returnOut hx hrt (hb hby d22_38) hr
                  · show Q22_0 Z  o0 o1 p1 p0 h0 n0 none T27.heap _
                    rw [e27]; exact ⟨((((((p1 - (1 : Int32)) + (-1 : Int32)) + (-1 : Int32)) + (-1 : Int32)) + (-1 : Int32)) + (1 : Int32)), rfl, N27, K27, fc28, fc29, Fw27, (own_rcE hi4 hU)⟩
                · obtain ⟨T26, h26, X26, e26, W26, st26⟩ := putF X22 hx hZ hown (host := "") (Or.inl (ww hw 60 rfl)) Via.refl e22 F_wordsInUse_o0 E_o0 (Or.inl (ww hw 61 rfl)) (ww hw 54 rfl) (ty := .int) (by decide) rfl rfl (g := (mkF m 35 #[va o0, vi ((((p1 - (1 : Int32)) + (-1 : Int32)) + (-1 : Int32)) + (-1 : Int32))] [(.int (((((p1 - (1 : Int32)) + (-1 : Int32)) + (-1 : Int32)) + (-1 : Int32)) + (1 : Int32))), (.ref o0)])) rfl rfl (hb hby d22_35)
                  have Fw26 := F_wordsInUse_o0.same W26
                  have O26 := O0.wr W26 g_o0
                  have K26 : Keep h0 h26 [o0] := K0.wr W26 (Or.inl (List.mem_of_getElem? (i := 0) rfl))
                  have N26 := Fr.snoc X26 N0 g_o0
                  obtain ⟨fs, hr, hrun, hended, hW, hsame⟩ := X26.leave (v := none) (fun _ => rfl) hlk
                  have fc27 := (E_o0.wr W26)
                  have fc28 := (F_words_o0.other W26 (Or.inr (slot_ne (Or.inl (ww hw 74 rfl)) (Or.inl (ww hw 61 rfl)) (by decide) (t := (.array .long)) (t' := .int) (by decide) (by decide))))
                  refine ⟨_, _, pre_25 _ ?_, hrun, hended, _, _, rfl, ?_, ⟨_, rfl⟩, hW, hsame.mono (by decide) (by decide)⟩
                  · show Steps p.tables e below (T22.setTop (mkF m 19 #[va o0, vi ((((p1 - (1 : Int32)) + (-1 : Int32)) + (-1 : Int32)) + (-1 : Int32))] [(.int (lcmpW x23 (0 : Int64)))])) _
                    refine XS.ifNo X22.here hx rfl (hb hby d22_19) rfl (own_lc_eqF hc24).1 ?_
                    refine XS.goto X22.here hx rfl (pc0 := 22) (pc' := 31) rfl (hb hby d22_22) (by decide) (by decide) ?_
                    refine XS.aloadN X22.here hx rfl (hb hby d22_31) rfl rfl ?_
                    refine XS.iloadN X22.here hx rfl (hb hby d22_32) rfl ?_
                    refine XS.iconst X22.here hx rfl (hb hby d22_33) ?_
                    refine XS.iadd X22.here hx rfl (hb hby d22_34) rfl ?_
                    refine st26 _ ?_
                    exact X26.returnOut hx hrt (hb hby d22_38) hr
                  · show Q22_0 Z  o0 o1 p1 p0 h0 n0 none T26.heap _
                    rw [e26]; exact ⟨(((((p1 - (1 : Int32)) + (-1 : Int32)) + (-1 : Int32)) + (-1 : Int32)) + (1 : Int32)), rfl, N26, K26, fc27, fc28, Fw26, (own_rcE hi3 hU)⟩
            · obtain ⟨T20, h20, X20, e20, W20, st20⟩ := putF X16 hx hZ hown (host := "") (Or.inl (ww hw 60 rfl)) Via.refl e16 F_wordsInUse_o0 E_o0 (Or.inl (ww hw 61 rfl)) (ww hw 54 rfl) (ty := .int) (by decide) rfl rfl (g := (mkF m 35 #[va o0, vi (((p1 - (1 : Int32)) + (-1 : Int32)) + (-1 : Int32))] [(.int ((((p1 - (1 : Int32)) + (-1 : Int32)) + (-1 : Int32)) + (1 : Int32))), (.ref o0)])) rfl rfl (hb hby d22_35)
              have Fw20 := F_wordsInUse_o0.same W20
              have O20 := O0.wr W20 g_o0
              have K20 : Keep h0 h20 [o0] := K0.wr W20 (Or.inl (List.mem_of_getElem? (i := 0) rfl))
              have N20 := Fr.snoc X20 N0 g_o0
              obtain ⟨fs, hr, hrun, hended, hW, hsame⟩ := X20.leave (v := none) (fun _ => rfl) hlk
              have fc21 := (E_o0.wr W20)
              have fc22 := (F_words_o0.other W20 (Or.inr (slot_ne (Or.inl (ww hw 74 rfl)) (Or.inl (ww hw 61 rfl)) (by decide) (t := (.array .long)) (t' := .int) (by decide) (by decide))))
              refine ⟨_, _, pre_19 _ ?_, hrun, hended, _, _, rfl, ?_, ⟨_, rfl⟩, hW, hsame.mono (by decide) (by decide)⟩
              · show Steps p.tables e below (T16.setTop (mkF m 19 #[va o0, vi (((p1 - (1 : Int32)) + (-1 : Int32)) + (-1 : Int32))] [(.int (lcmpW x17 (0 : Int64)))])) _
                refine XS.ifNo X16.here hx rfl (hb hby d22_19) rfl (own_lc_eqF hc18).1 ?_
                refine XS.goto X16.here hx rfl (pc0 := 22) (pc' := 31) rfl (hb hby d22_22) (by decide) (by decide) ?_
                refine XS.aloadN X16.here hx rfl (hb hby d22_31) rfl rfl ?_
                refine XS.iloadN X16.here hx rfl (hb hby d22_32) rfl ?_
                refine XS.iconst X16.here hx rfl (hb hby d22_33) ?_
                refine XS.iadd X16.here hx rfl (hb hby d22_34) rfl ?_
                refine st20 _ ?_
                exact X20.returnOut hx hrt (hb hby d22_38) hr
              · show Q22_0 Z  o0 o1 p1 p0 h0 n0 none T20.heap _
                rw [e20]; exact ⟨((((p1 - (1 : Int32)) + (-1 : Int32)) + (-1 : Int32)) + (1 : Int32)), rfl, N20, K20, fc21, fc22, Fw20, (own_rcE hi2 hU)⟩
        · obtain ⟨T14, h14, X14, e14, W14, st14⟩ := putF X10 hx hZ hown (host := "") (Or.inl (ww hw 60 rfl)) Via.refl e10 F_wordsInUse_o0 E_o0 (Or.inl (ww hw 61 rfl)) (ww hw 54 rfl) (ty := .int) (by decide) rfl rfl (g := (mkF m 35 #[va o0, vi ((p1 - (1 : Int32)) + (-1 : Int32))] [(.int (((p1 - (1 : Int32)) + (-1 : Int32)) + (1 : Int32))), (.ref o0)])) rfl rfl (hb hby d22_35)
          have Fw14 := F_wordsInUse_o0.same W14
          have O14 := O0.wr W14 g_o0
          have K14 : Keep h0 h14 [o0] := K0.wr W14 (Or.inl (List.mem_of_getElem? (i := 0) rfl))
          have N14 := Fr.snoc X14 N0 g_o0
          obtain ⟨fs, hr, hrun, hended, hW, hsame⟩ := X14.leave (v := none) (fun _ => rfl) hlk
          have fc15 := (E_o0.wr W14)
          have fc16 := (F_words_o0.other W14 (Or.inr (slot_ne (Or.inl (ww hw 74 rfl)) (Or.inl (ww hw 61 rfl)) (by decide) (t := (.array .long)) (t' := .int) (by decide) (by decide))))
          refine ⟨_, _, pre_13 _ ?_, hrun, hended, _, _, rfl, ?_, ⟨_, rfl⟩, hW, hsame.mono (by decide) (by decide)⟩
          · show Steps p.tables e below (T10.setTop (mkF m 19 #[va o0, vi ((p1 - (1 : Int32)) + (-1 : Int32))] [(.int (lcmpW x11 (0 : Int64)))])) _
            refine XS.ifNo X10.here hx rfl (hb hby d22_19) rfl (own_lc_eqF hc12).1 ?_
            refine XS.goto X10.here hx rfl (pc0 := 22) (pc' := 31) rfl (hb hby d22_22) (by decide) (by decide) ?_
            refine XS.aloadN X10.here hx rfl (hb hby d22_31) rfl rfl ?_
            refine XS.iloadN X10.here hx rfl (hb hby d22_32) rfl ?_
            refine XS.iconst X10.here hx rfl (hb hby d22_33) ?_
            refine XS.iadd X10.here hx rfl (hb hby d22_34) rfl ?_
            refine st14 _ ?_
            exact X14.returnOut hx hrt (hb hby d22_38) hr
          · show Q22_0 Z  o0 o1 p1 p0 h0 n0 none T14.heap _
            rw [e14]; exact ⟨(((p1 - (1 : Int32)) + (-1 : Int32)) + (1 : Int32)), rfl, N14, K14, fc15, fc16, Fw14, (own_rcE hi1 hU)⟩
    · obtain ⟨T8, h8, X8, e8, W8, st8⟩ := putF X4 hx hZ hown (host := "") (Or.inl (ww hw 60 rfl)) Via.refl e4 F_wordsInUse_o0 E_o0 (Or.inl (ww hw 61 rfl)) (ww hw 54 rfl) (ty := .int) (by decide) rfl rfl (g := (mkF m 35 #[va o0, vi (p1 - (1 : Int32))] [(.int ((p1 - (1 : Int32)) + (1 : Int32))), (.ref o0)])) rfl rfl (hb hby d22_35)
      have Fw8 := F_wordsInUse_o0.same W8
      have O8 := O0.wr W8 g_o0
      have K8 : Keep h0 h8 [o0] := K0.wr W8 (Or.inl (List.mem_of_getElem? (i := 0) rfl))
      have N8 := Fr.snoc X8 N0 g_o0
      obtain ⟨fs, hr, hrun, hended, hW, hsame⟩ := X8.leave (v := none) (fun _ => rfl) hlk
      have fc9 := (E_o0.wr W8)
      have fc10 := (F_words_o0.other W8 (Or.inr (slot_ne (Or.inl (ww hw 74 rfl)) (Or.inl (ww hw 61 rfl)) (by decide) (t := (.array .long)) (t' := .int) (by decide) (by decide))))
      refine ⟨_, _, pre_7 _ ?_, hrun, hended, _, _, rfl, ?_, ⟨_, rfl⟩, hW, hsame.mono (by decide) (by decide)⟩
      · show Steps p.tables e below (T4.setTop (mkF m 19 #[va o0, vi (p1 - (1 : Int32))] [(.int (lcmpW x5 (0 : Int64)))])) _
        refine XS.ifNo X4.here hx rfl (hb hby d22_19) rfl (own_lc_eqF hc6).1 ?_
        refine XS.goto X4.here hx rfl (pc0 := 22) (pc' := 31) rfl (hb hby d22_22) (by decide) (by decide) ?_
        refine XS.aloadN X4.here hx rfl (hb hby d22_31) rfl rfl ?_
        refine XS.iloadN X4.here hx rfl (hb hby d22_32) rfl ?_
        refine XS.iconst X4.here hx rfl (hb hby d22_33) ?_
        refine XS.iadd X4.here hx rfl (hb hby d22_34) rfl ?_
        refine st8 _ ?_
        exact X8.returnOut hx hrt (hb hby d22_38) hr
      · show Q22_0 Z  o0 o1 p1 p0 h0 n0 none T8.heap _
        rw [e8]; exact ⟨((p1 - (1 : Int32)) + (1 : Int32)), rfl, N8, K8, fc9, fc10, Fw8, (own_rcE hi0 hU)⟩
theorem d20_158 : decode jdk_92_method_24_code 158 = .ok (.aload_n 0, 1) := by decide +kernel
theorem d20_159 : decode jdk_92_method_24_code 159 = .ok (.invokevirtual 56, 3) := by decide +kernel
theorem d20_162 : decode jdk_92_method_24_code 162 = .ok (.return_, 1) := by decide +kernel
theorem d20_97 : decode jdk_92_method_24_code 97 = .ok (.aload_n 0, 1) := by decide +kernel
theorem d20_98 : decode jdk_92_method_24_code 98 = .ok (.getfield 11, 3) := by decide +kernel
theorem d20_101 : decode jdk_92_method_24_code 101 = .ok (.iload_n 3, 1) := by decide +kernel
theorem d20_102 : decode jdk_92_method_24_code 102 = .ok (.dup2, 1) := by decide +kernel
theorem d20_103 : decode jdk_92_method_24_code 103 = .ok (.laload, 1) := by decide +kernel
theorem d20_104 : decode jdk_92_method_24_code 104 = .ok (.lload 5, 2) := by decide +kernel
theorem d20_106 : decode jdk_92_method_24_code 106 = .ok (.ldc2_w 165, 3) := by decide +kernel
theorem d20_109 : decode jdk_92_method_24_code 109 = .ok (.lxor, 1) := by decide +kernel
theorem d20_110 : decode jdk_92_method_24_code 110 = .ok (.land, 1) := by decide +kernel
theorem d20_111 : decode jdk_92_method_24_code 111 = .ok (.lastore, 1) := by decide +kernel
theorem d20_112 : decode jdk_92_method_24_code 112 = .ok (.iload_n 3, 1) := by decide +kernel
theorem d20_113 : decode jdk_92_method_24_code 113 = .ok (.iconst 1, 1) := by decide +kernel
theorem d20_114 : decode jdk_92_method_24_code 114 = .ok (.iadd, 1) := by decide +kernel
theorem d20_115 : decode jdk_92_method_24_code 115 = .ok (.istore 9, 2) := by decide +kernel
theorem d20_117 : decode jdk_92_method_24_code 117 = .ok (.iload 9, 2) := by decide +kernel
theorem d20_119 : decode jdk_92_method_24_code 119 = .ok (.iload 4, 2) := by decide +kernel
theorem d20_121 : decode jdk_92_method_24_code 121 = .ok (.if_icmp .ge 17, 3) := by decide +kernel
theorem d20_124 : decode jdk_92_method_24_code 124 = .ok (.aload_n 0, 1) := by decide +kernel
theorem d20_125 : decode jdk_92_method_24_code 125 = .ok (.getfield 11, 3) := by decide +kernel
theorem d20_128 : decode jdk_92_method_24_code 128 = .ok (.iload 9, 2) := by decide +kernel
theorem d20_130 : decode jdk_92_method_24_code 130 = .ok (.lconst 0, 1) := by decide +kernel
theorem d20_131 : decode jdk_92_method_24_code 131 = .ok (.lastore, 1) := by decide +kernel
theorem d20_132 : decode jdk_92_method_24_code 132 = .ok (.iinc 9 1, 3) := by decide +kernel
theorem d20_135 : decode jdk_92_method_24_code 135 = .ok (.goto (-18), 3) := by decide +kernel
theorem d20_138 : decode jdk_92_method_24_code 138 = .ok (.aload_n 0, 1) := by decide +kernel
theorem d20_139 : decode jdk_92_method_24_code 139 = .ok (.getfield 11, 3) := by decide +kernel
theorem d20_142 : decode jdk_92_method_24_code 142 = .ok (.iload 4, 2) := by decide +kernel
theorem d20_144 : decode jdk_92_method_24_code 144 = .ok (.dup2, 1) := by decide +kernel
theorem d20_145 : decode jdk_92_method_24_code 145 = .ok (.laload, 1) := by decide +kernel
theorem d20_146 : decode jdk_92_method_24_code 146 = .ok (.lload 7, 2) := by decide +kernel
theorem d20_148 : decode jdk_92_method_24_code 148 = .ok (.ldc2_w 165, 3) := by decide +kernel
theorem d20_151 : decode jdk_92_method_24_code 151 = .ok (.lxor, 1) := by decide +kernel
theorem d20_152 : decode jdk_92_method_24_code 152 = .ok (.land, 1) := by decide +kernel
theorem d20_153 : decode jdk_92_method_24_code 153 = .ok (.lastore, 1) := by decide +kernel
theorem d20_42 : decode jdk_92_method_24_code 42 = .ok (.aload_n 0, 1) := by decide +kernel
theorem d20_43 : decode jdk_92_method_24_code 43 = .ok (.invokevirtual 177, 3) := by decide +kernel
theorem d23_0 : decode jdk_92_method_32_code 0 = .ok (.aload_n 0, 1) := by decide +kernel
theorem d23_1 : decode jdk_92_method_32_code 1 = .ok (.getfield 7, 3) := by decide +kernel
theorem d23_4 : decode jdk_92_method_32_code 4 = .ok (.ifCond .ne 5, 3) := by decide +kernel
theorem d23_9 : decode jdk_92_method_32_code 9 = .ok (.bipush 64, 2) := by decide +kernel
theorem d23_11 : decode jdk_92_method_32_code 11 = .ok (.aload_n 0, 1) := by decide +kernel
theorem d23_12 : decode jdk_92_method_32_code 12 = .ok (.getfield 7, 3) := by decide +kernel
theorem d23_15 : decode jdk_92_method_32_code 15 = .ok (.iconst 1, 1) := by decide +kernel
theorem d23_16 : decode jdk_92_method_32_code 16 = .ok (.isub, 1) := by decide +kernel
theorem d23_17 : decode jdk_92_method_32_code 17 = .ok (.imul, 1) := by decide +kernel
theorem d23_18 : decode jdk_92_method_32_code 18 = .ok (.bipush 64, 2) := by decide +kernel
theorem d23_20 : decode jdk_92_method_32_code 20 = .ok (.aload_n 0, 1) := by decide +kernel
theorem d23_21 : decode jdk_92_method_32_code 21 = .ok (.getfield 11, 3) := by decide +kernel
theorem d23_24 : decode jdk_92_method_32_code 24 = .ok (.aload_n 0, 1) := by decide +kernel
theorem d23_25 : decode jdk_92_method_32_code 25 = .ok (.getfield 7, 3) := by decide +kernel
theorem d23_28 : decode jdk_92_method_32_code 28 = .ok (.iconst 1, 1) := by decide +kernel
theorem d23_29 : decode jdk_92_method_32_code 29 = .ok (.isub, 1) := by decide +kernel
theorem d23_30 : decode jdk_92_method_32_code 30 = .ok (.laload, 1) := by decide +kernel
theorem d23_31 : decode jdk_92_method_32_code 31 = .ok (.invokestatic 190, 3) := by decide +kernel
theorem d23_34 : decode jdk_92_method_32_code 34 = .ok (.isub, 1) := by decide +kernel
theorem d23_35 : decode jdk_92_method_32_code 35 = .ok (.iadd, 1) := by decide +kernel
theorem d23_36 : decode jdk_92_method_32_code 36 = .ok (.ireturn, 1) := by decide +kernel
def Q23_0 (Z : State) (o0 : Addr) (o1 : Addr) (p1 : Int32) (p0 : Int32) (h0 : Heap) (n0 : Nat) (v : Option Value) (h : Heap) (L : List Loc) : Prop := ∃ (r : Int32), v = (some (.int r)) ∧ Fr n0 L ∧ h = h0
theorem rm23_0 (l : Launch) (Z : State) (a0 : Array Value) (hw : HW Z a0) (ws : List Jvm.Cond) (o0 : Addr) (o1 : Addr) (p1 : Int32) (p0 : Int32) (h0 : Heap) (n0 : Nat) (O0 : Old Z n0 h0) (S : SF Z ) (F_words_o0 : Fld Z h0 o0 sC1 "words" "[J" (.ref o1)) (F_wordsInUse_o0 : Fld Z h0 o0 sC1 "wordsInUse" "I" (.int p1)) (V_o1 : LA Z h0 o1 p0) (hU : RU p1 p0) (hz : 1 ≤ (p1).toInt) :
    Pay l Z (⟨sC1, "length", "()I"⟩ : MethodName) ws jdk_92_method_32_code 1 (some .int) #[(.ref o0)] h0 ({ frames := 2, cells := 0, slots := 0, locals := 30 } : Room) (Q23_0 Z  o0 o1 p1 p0 h0 n0) := by
  refine own_body (plainFor_of_name pn_3) (L0 := #[va o0]) (fun _ => by first | rfl | (simp [entryFrame, mkF, argsToLocals, Value.category]; done)) ?_
  intro p e s m below meth c s₁ hrt hlk hx hby hml hZ hown0 hnm X0 e0
  have hown : s.vm.findClass sC1 = some m.cls := hown0
  have N0 := Fr.nil n0
  have K0 : Keep h0 h0 [] := Keep.refl _ _
  obtain ⟨T1, X1, e1, st1⟩ := getF X0 hx hZ hown (host := "") (Or.inl (ww hw 60 rfl)) Via.refl e0 F_wordsInUse_o0 (g := (mkF m 1 #[va o0] [(.ref o0)])) rfl rfl (hb hby d23_1)
  have hc2 : ¬ (p1 = (0 : Int32)) := (own_len0 hz)
  obtain ⟨T3, X3, e3, st3⟩ := getF X1 hx hZ hown (host := "") (Or.inl (ww hw 60 rfl)) Via.refl e1 F_wordsInUse_o0 (g := (mkF m 12 #[va o0] [(.ref o0), (.int 64)])) rfl rfl (hb hby d23_12)
  obtain ⟨T4, X4, e4, st4⟩ := getF X3 hx hZ hown (host := "") (Or.inl (ww hw 73 rfl)) Via.refl e3 F_words_o0 (g := (mkF m 21 #[va o0] [(.ref o0), (.int 64), (.int ((64 : Int32) * (p1 - (1 : Int32))))])) rfl rfl (hb hby d23_21)
  obtain ⟨T5, X5, e5, st5⟩ := getF X4 hx hZ hown (host := "") (Or.inl (ww hw 60 rfl)) Via.refl e4 F_wordsInUse_o0 (g := (mkF m 25 #[va o0] [(.ref o0), (.ref o1), (.int 64), (.int ((64 : Int32) * (p1 - (1 : Int32))))])) rfl rfl (hb hby d23_25)
  obtain ⟨x6, st6⟩ := own_laload X5 hx hZ e5 V_o1 (own_lenb hz hU) (g := (mkF m 30 #[va o0] [(.int (p1 - (1 : Int32))), (.ref o1), (.int 64), (.int ((64 : Int32) * (p1 - (1 : Int32))))])) rfl rfl (hb hby d23_30)
  obtain ⟨T7, X7, e7, st7⟩ := own_nlz X5 hx hZ hw hown e5 (g := (mkF m 31 #[va o0] [(.long x6), (.int 64), (.int ((64 : Int32) * (p1 - (1 : Int32))))])) rfl (by rw [hml]; rfl) (rest := [(.int 64), (.int ((64 : Int32) * (p1 - (1 : Int32))))]) rfl (hb hby d23_31) (by decide) (by decide) (by decide) (W := 2) (by show 2 * 0 + _ ≤ _; exact Nat.le_of_eq rfl) (by decide)
  obtain ⟨fs, hr, hrun, hended, hW, hsame⟩ := X7.leave (v := (some (.int (((64 : Int32) * (p1 - (1 : Int32))) + ((64 : Int32) - (nlL x6)))))) (fun h => by rw [hrt] at h; cases h) hlk
  refine ⟨_, _, ?_, hrun, hended, _, _, rfl, ?_, ⟨_, rfl⟩, hW, hsame.mono (by decide) (by decide)⟩
  · show Steps p.tables e below (s₁.setTop (mkF m 0 #[va o0] [])) _
    refine XS.aloadN X0.here hx rfl (hb hby d23_0) rfl rfl ?_
    refine st1 _ ?_
    refine XS.ifYes X1.here hx rfl (pc0 := 4) (pc' := 9) rfl (hb hby d23_4) rfl ((if0 _ _).trans (feq hc2).2) (by decide) (by decide) ?_
    refine XS.bipush X1.here hx rfl (hb hby d23_9) ?_
    refine XS.aloadN X1.here hx rfl (hb hby d23_11) rfl rfl ?_
    refine st3 _ ?_
    refine XS.iconst X3.here hx rfl (hb hby d23_15) ?_
    refine XS.isub X3.here hx rfl (hb hby d23_16) rfl ?_
    show Steps p.tables e below (T3.setTop (mkF m 17 #[va o0] [(.int (p1 - (1 : Int32))), (.int 64)])) _
    refine XS.imul X3.here hx rfl (hb hby d23_17) rfl ?_
    refine XS.bipush X3.here hx rfl (hb hby d23_18) ?_
    refine XS.aloadN X3.here hx rfl (hb hby d23_20) rfl rfl ?_
    refine st4 _ ?_
    refine XS.aloadN X4.here hx rfl (hb hby d23_24) rfl rfl ?_
    refine st5 _ ?_
    refine XS.iconst X5.here hx rfl (hb hby d23_28) ?_
    refine XS.isub X5.here hx rfl (hb hby d23_29) rfl ?_
    show Steps p.tables e below (T5.setTop (mkF m 30 #[va o0] [(.int (p1 - (1 : Int32))), (.ref o1), (.int 64), (.int ((64 : Int32) * (p1 - (1 : Int32))))])) _
    refine st6 _ ?_
    refine st7 _ ?_
    refine XS.isub X7.here hx rfl (hb hby d23_34) rfl ?_
    refine XS.iadd X7.here hx rfl (hb hby d23_35) rfl ?_
    exact retOut X7 hx (t := .int) (i := .ireturn) hrt rfl (Or.inl ⟨rfl, Or.inl rfl, _, rfl⟩) (hb hby d23_36) hr
  · show Q23_0 Z  o0 o1 p1 p0 h0 n0 (some (.int (((64 : Int32) * (p1 - (1 : Int32))) + ((64 : Int32) - (nlL x6))))) T7.heap _
    exact (⟨(((64 : Int32) * (p1 - (1 : Int32))) + ((64 : Int32) - (nlL x6))), rfl, N0, e7⟩)
theorem pd_10 : parseMethodDescriptor "()I" = some ⟨[], some .int⟩ := by decide +kernel
theorem d20_46 : decode jdk_92_method_24_code 46 = .ok (.istore_n 2, 1) := by decide +kernel
theorem d20_47 : decode jdk_92_method_24_code 47 = .ok (.aload_n 0, 1) := by decide +kernel
theorem d20_48 : decode jdk_92_method_24_code 48 = .ok (.getfield 7, 3) := by decide +kernel
theorem d20_51 : decode jdk_92_method_24_code 51 = .ok (.iconst 1, 1) := by decide +kernel
theorem d20_52 : decode jdk_92_method_24_code 52 = .ok (.isub, 1) := by decide +kernel
theorem d20_53 : decode jdk_92_method_24_code 53 = .ok (.istore 4, 2) := by decide +kernel
theorem d20_24 : decode jdk_92_method_24_code 24 = .ok (.return_, 1) := by decide +kernel
def Q20_0 (Z : State) (o0 : Addr) (o1 : Addr) (p1 : Int32) (p0 : Int32) (p2 : Int32) (p3 : Int32) (h0 : Heap) (n0 : Nat) (v : Option Value) (h : Heap) (L : List Loc) : Prop := ∃ (u : Int32), v = none ∧ Fr n0 L ∧ Keep h0 h [o0, o1] ∧ Exa Z h o0 sC1 ∧ Fld Z h o0 sC1 "words" "[J" (.ref o1) ∧ Fld Z h o0 sC1 "wordsInUse" "I" (.int u) ∧ LA Z h o1 p0 ∧ RU u p0
theorem rm20_0 (l : Launch) (Z : State) (a0 : Array Value) (hw : HW Z a0) (ws : List Jvm.Cond) (o0 : Addr) (o1 : Addr) (p1 : Int32) (p0 : Int32) (p2 : Int32) (p3 : Int32) (h0 : Heap) (n0 : Nat) (O0 : Old Z n0 h0) (S : SF Z ) (E_o0 : Exa Z h0 o0 sC1) (F_words_o0 : Fld Z h0 o0 sC1 "words" "[J" (.ref o1)) (F_wordsInUse_o0 : Fld Z h0 o0 sC1 "wordsInUse" "I" (.int p1)) (V_o1 : LA Z h0 o1 p0) (ne_o0_o1 : o0 ≠ o1) (g_o0 : n0 ≤ o0) (g_o1 : n0 ≤ o1) (hU : RU p1 p0) (hN : NW p0) (hr : 0 ≤ (p2).toInt ∧ (p2).toInt < (p3).toInt ∧ (p3).toInt ≤ 256) :
    Pay l Z (⟨sC1, "clear", "(II)V"⟩ : MethodName) ws jdk_92_method_24_code 10 none #[(.ref o0), (.int p2), (.int p3)] h0 ({ frames := 3, cells := 0, slots := 0, locals := 42 } : Room) (Q20_0 Z  o0 o1 p1 p0 p2 p3 h0 n0) := by
  refine own_body (plainFor_of_name pn_3) (L0 := #[va o0, vi p2, vi p3, uu, uu, uu, uu, uu, uu, uu]) (fun _ => by first | rfl | (simp [entryFrame, mkF, argsToLocals, Value.category]; done)) ?_
  intro p e s m below meth c s₁ hrt hlk hx hby hml hZ hown0 hnm X0 e0
  have hown : s.vm.findClass sC1 = some m.cls := hown0
  have N0 := Fr.nil n0
  have K0 : Keep h0 h0 [o0, o1] := Keep.refl _ _
  obtain ⟨_, _, ⟨T1, L1, k1, n1⟩, -, X1, ⟨Lc1, hQ1, l1, y1, z1⟩, st1⟩ := Jvm.LawKit.callS X0 hx (y := (⟨sC1, "checkRange", "(II)V"⟩ : MethodName)) hown (mvT hZ (ww hw 137 rfl)) (mvT hZ (ww hw 138 rfl)) (mvT hZ (ww hw 55 rfl)) (mvT hZ (ww hw 139 rfl)) (by decide) (backOf (W := 0) (rm21_0 l Z a0 hw []  p2 p3 h0 n0 O0 S ⟨hr.1, hr.2.1⟩) hZ (ww hw 139 rfl) (ww hw 55 rfl) (by decide) (by decide)) (g := (mkF m 2 #[va o0, vi p2, vi p3, uu, uu, uu, uu, uu, uu, uu] [(.int p3), (.int p2)])) rfl (by rw [hml]; rfl) (argsL := [(.int p2), (.int p3)]) (rest := []) (lenOf pd_6 rfl) rfl (by show 2 * 0 + _ ≤ _; exact Nat.le_of_eq rfl) (hb hby d20_2) (fun _ _ => ⟨rfl, e0, (by decide : 0 + 0 ≤ _), (by decide : 0 + 0 ≤ _)⟩)
  dsimp only [Pt.U, Pt.locs, Pt.cells, Pt.slots] at X1 l1 y1 z1 st1 hQ1
  subst l1 y1 z1
  obtain ⟨rfl, Nq1, e1⟩ := hQ1
  have N1 := Fr.app N0 Nq1
  have hc2 : ¬ (p2 = p3) := (own_cl0 hr)
  obtain ⟨_, _, ⟨T3, L3, k3, n3⟩, -, X3, ⟨Lc3, hQ3, l3, y3, z3⟩, st3⟩ := Jvm.LawKit.callS X1 hx (y := My10) hown (mvT hZ (ww hw 69 rfl)) (mvT hZ (ww hw 70 rfl)) (mvT hZ (ww hw 55 rfl)) (mvT hZ (ww hw 71 rfl)) (by decide) (backOf (W := 0) (rm10_0 l Z a0 hw []  p2 h0 n0 O0 S) hZ (ww hw 71 rfl) (ww hw 55 rfl) (by decide) (by decide)) (g := (mkF m 12 #[va o0, vi p2, vi p3, uu, uu, uu, uu, uu, uu, uu] [(.int p2)])) rfl (by rw [hml]; rfl) (argsL := [(.int p2)]) (rest := []) (lenOf pd_4 rfl) rfl (by show 2 * 0 + _ ≤ _; exact Nat.le_of_eq rfl) (hb hby d20_12) (fun _ _ => ⟨rfl, e1, (by decide : 0 + 0 ≤ _), (by decide : 0 + 0 ≤ _)⟩)
  dsimp only [Pt.U, Pt.locs, Pt.cells, Pt.slots] at X3 l3 y3 z3 st3 hQ3
  subst l3 y3 z3
  obtain ⟨rfl, Nq3, e3⟩ := hQ3
  have N3 := Fr.app N1 Nq3
  obtain ⟨T4, X4, e4, st4⟩ := getF X3 hx hZ hown (host := "") (Or.inl (ww hw 60 rfl)) Via.refl e3 F_wordsInUse_o0 (g := (mkF m 18 #[va o0, vi p2, vi p3, vi (p2 >>> ((6 : Int32) &&& 31)), uu, uu, uu, uu, uu, uu] [(.ref o0), (.int (p2 >>> ((6 : Int32) &&& 31)))])) rfl rfl (hb hby d20_18)
  have pre_6 : ∀ t, Steps p.tables e below (T4.setTop (mkF m 21 #[va o0, vi p2, vi p3, vi (p2 >>> ((6 : Int32) &&& 31)), uu, uu, uu, uu, uu, uu] [(.int p1), (.int (p2 >>> ((6 : Int32) &&& 31)))])) t → Steps p.tables e below (s₁.setTop (mkF m 0 #[va o0, vi p2, vi p3, uu, uu, uu, uu, uu, uu, uu] [])) t := fun t k => (by
    show Steps p.tables e below (s₁.setTop (mkF m 0 #[va o0, vi p2, vi p3, uu, uu, uu, uu, uu, uu, uu] [])) _
    refine XS.iloadN X0.here hx rfl (hb hby d20_0) rfl ?_
    refine XS.iloadN X0.here hx rfl (hb hby d20_1) rfl ?_
    refine st1 _ ?_
    refine XS.iloadN X1.here hx rfl (hb hby d20_5) rfl ?_
    refine XS.iloadN X1.here hx rfl (hb hby d20_6) rfl ?_
    refine XS.icmpYes X1.here hx rfl (pc0 := 7) (pc' := 11) rfl (hb hby d20_7) rfl (feq hc2).2 (by decide) (by decide) ?_
    refine XS.iloadN X1.here hx rfl (hb hby d20_11) rfl ?_
    refine st3 _ ?_
    show Steps p.tables e below (T3.setTop (mkF m 15 #[va o0, vi p2, vi p3, uu, uu, uu, uu, uu, uu, uu] [(.int (p2 >>> ((6 : Int32) &&& 31)))])) _
    refine XS.istoreN X3.here hx rfl (hb hby d20_15) rfl (l' := #[va o0, vi p2, vi p3, vi (p2 >>> ((6 : Int32) &&& 31)), uu, uu, uu, uu, uu, uu]) rfl ?_
    refine XS.iloadN X3.here hx rfl (hb hby d20_16) rfl ?_
    refine XS.aloadN X3.here hx rfl (hb hby d20_17) rfl rfl ?_
    refine st4 _ ?_
    exact k)
  by_cases hc5 : (p2 >>> ((6 : Int32) &&& 31)) < p1
  · have hs := own_cls hr hc5
    obtain ⟨_, _, ⟨T7, L7, k7, n7⟩, -, X7, ⟨Lc7, hQ7, l7, y7, z7⟩, st7⟩ := Jvm.LawKit.callS X4 hx (y := My10) hown (mvT hZ (ww hw 69 rfl)) (mvT hZ (ww hw 70 rfl)) (mvT hZ (ww hw 55 rfl)) (mvT hZ (ww hw 71 rfl)) (by decide) (backOf (W := 0) (rm10_0 l Z a0 hw []  (p3 - (1 : Int32)) h0 n0 O0 S) hZ (ww hw 71 rfl) (ww hw 55 rfl) (by decide) (by decide)) (g := (mkF m 28 #[va o0, vi p2, vi p3, vi (p2 >>> ((6 : Int32) &&& 31)), uu, uu, uu, uu, uu, uu] [(.int (p3 - (1 : Int32)))])) rfl (by rw [hml]; rfl) (argsL := [(.int (p3 - (1 : Int32)))]) (rest := []) (lenOf pd_4 rfl) rfl (by show 2 * 0 + _ ≤ _; exact Nat.le_of_eq rfl) (hb hby d20_28) (fun _ _ => ⟨rfl, e4, (by decide : 0 + 0 ≤ _), (by decide : 0 + 0 ≤ _)⟩)
    dsimp only [Pt.U, Pt.locs, Pt.cells, Pt.slots] at X7 l7 y7 z7 st7 hQ7
    subst l7 y7 z7
    obtain ⟨rfl, Nq7, e7⟩ := hQ7
    have N7 := Fr.app N3 Nq7
    obtain ⟨T8, X8, e8, st8⟩ := getF X7 hx hZ hown (host := "") (Or.inl (ww hw 60 rfl)) Via.refl e7 F_wordsInUse_o0 (g := (mkF m 36 #[va o0, vi p2, vi p3, vi (p2 >>> ((6 : Int32) &&& 31)), vi ((p3 - (1 : Int32)) >>> ((6 : Int32) &&& 31)), uu, uu, uu, uu, uu] [(.ref o0), (.int ((p3 - (1 : Int32)) >>> ((6 : Int32) &&& 31)))])) rfl rfl (hb hby d20_36)
    have pre_10 : ∀ t, Steps p.tables e below (T8.setTop (mkF m 39 #[va o0, vi p2, vi p3, vi (p2 >>> ((6 : Int32) &&& 31)), vi ((p3 - (1 : Int32)) >>> ((6 : Int32) &&& 31)), uu, uu, uu, uu, uu] [(.int p1), (.int ((p3 - (1 : Int32)) >>> ((6 : Int32) &&& 31)))])) t → Steps p.tables e below (s₁.setTop (mkF m 0 #[va o0, vi p2, vi p3, uu, uu, uu, uu, uu, uu, uu] [])) t := fun t k => pre_6 t (by
      show Steps p.tables e below (T4.setTop (mkF m 21 #[va o0, vi p2, vi p3, vi (p2 >>> ((6 : Int32) &&& 31)), uu, uu, uu, uu, uu, uu] [(.int p1), (.int (p2 >>> ((6 : Int32) &&& 31)))])) _
      refine XS.icmpYes X4.here hx rfl (pc0 := 21) (pc' := 25) rfl (hb hby d20_21) rfl (tlt hc5).1 (by decide) (by decide) ?_
      refine XS.iloadN X4.here hx rfl (hb hby d20_25) rfl ?_
      refine XS.iconst X4.here hx rfl (hb hby d20_26) ?_
      refine XS.isub X4.here hx rfl (hb hby d20_27) rfl ?_
      refine st7 _ ?_
      refine XS.istore X7.here hx rfl (hb hby d20_31) rfl (l' := #[va o0, vi p2, vi p3, vi (p2 >>> ((6 : Int32) &&& 31)), vi ((p3 - (1 : Int32)) >>> ((6 : Int32) &&& 31)), uu, uu, uu, uu, uu]) rfl ?_
      refine XS.iload X7.here hx rfl (hb hby d20_33) rfl ?_
      refine XS.aloadN X7.here hx rfl (hb hby d20_35) rfl rfl ?_
      show Steps p.tables e below (T7.setTop (mkF m 36 #[va o0, vi p2, vi p3, vi (p2 >>> ((6 : Int32) &&& 31)), vi ((p3 - (1 : Int32)) >>> ((6 : Int32) &&& 31)), uu, uu, uu, uu, uu] [(.ref o0), (.int ((p3 - (1 : Int32)) >>> ((6 : Int32) &&& 31)))])) _
      refine st8 _ ?_
      exact k)
    by_cases hc9 : ((p3 - (1 : Int32)) >>> ((6 : Int32) &&& 31)) < p1
    · have he := own_cle hr hs hc9
      have pre_12 : ∀ t, Steps p.tables e below (T8.setTop (mkF m 73 #[va o0, vi p2, vi p3, vi (p2 >>> ((6 : Int32) &&& 31)), vi ((p3 - (1 : Int32)) >>> ((6 : Int32) &&& 31)), vl ((-1 : Int64) <<< (p2 &&& 0x3f).toInt64), ss, vl (((-1 : Int64).toUInt64 >>> ((-p3) &&& 0x3f).toInt64.toUInt64).toInt64), ss, uu] [(.int ((p3 - (1 : Int32)) >>> ((6 : Int32) &&& 31))), (.int (p2 >>> ((6 : Int32) &&& 31)))])) t → Steps p.tables e below (s₁.setTop (mkF m 0 #[va o0, vi p2, vi p3, uu, uu, uu, uu, uu, uu, uu] [])) t := fun t k => pre_10 t (by
        show Steps p.tables e below (T8.setTop (mkF m 39 #[va o0, vi p2, vi p3, vi (p2 >>> ((6 : Int32) &&& 31)), vi ((p3 - (1 : Int32)) >>> ((6 : Int32) &&& 31)), uu, uu, uu, uu, uu] [(.int p1), (.int ((p3 - (1 : Int32)) >>> ((6 : Int32) &&& 31)))])) _
        refine XS.icmpYes X8.here hx rfl (pc0 := 39) (pc' := 55) rfl (hb hby d20_39) rfl (tlt hc9).1 (by decide) (by decide) ?_
        refine X8.ldc2Long hx hown (mvT hZ (ww hw 122 rfl)) (g := (mkF m 55 #[va o0, vi p2, vi p3, vi (p2 >>> ((6 : Int32) &&& 31)), vi ((p3 - (1 : Int32)) >>> ((6 : Int32) &&& 31)), uu, uu, uu, uu, uu] [])) rfl (hb hby d20_55) _ ?_
        refine XS.iloadN X8.here hx rfl (hb hby d20_58) rfl ?_
        refine XS.lshl X8.here hx rfl (hb hby d20_59) rfl ?_
        refine XS.lstore X8.here hx rfl (hb hby d20_60) rfl (l' := #[va o0, vi p2, vi p3, vi (p2 >>> ((6 : Int32) &&& 31)), vi ((p3 - (1 : Int32)) >>> ((6 : Int32) &&& 31)), vl ((-1 : Int64) <<< (p2 &&& 0x3f).toInt64), ss, uu, uu, uu]) rfl ?_
        refine X8.ldc2Long hx hown (mvT hZ (ww hw 122 rfl)) (g := (mkF m 62 #[va o0, vi p2, vi p3, vi (p2 >>> ((6 : Int32) &&& 31)), vi ((p3 - (1 : Int32)) >>> ((6 : Int32) &&& 31)), vl ((-1 : Int64) <<< (p2 &&& 0x3f).toInt64), ss, uu, uu, uu] [])) rfl (hb hby d20_62) _ ?_
        refine XS.iloadN X8.here hx rfl (hb hby d20_65) rfl ?_
        refine XS.ineg X8.here hx rfl (hb hby d20_66) rfl ?_
        show Steps p.tables e below (T8.setTop (mkF m 67 #[va o0, vi p2, vi p3, vi (p2 >>> ((6 : Int32) &&& 31)), vi ((p3 - (1 : Int32)) >>> ((6 : Int32) &&& 31)), vl ((-1 : Int64) <<< (p2 &&& 0x3f).toInt64), ss, uu, uu, uu] [(.int (-p3)), (.long (-1))])) _
        refine XS.lushr X8.here hx rfl (hb hby d20_67) rfl ?_
        refine XS.lstore X8.here hx rfl (hb hby d20_68) rfl (l' := #[va o0, vi p2, vi p3, vi (p2 >>> ((6 : Int32) &&& 31)), vi ((p3 - (1 : Int32)) >>> ((6 : Int32) &&& 31)), vl ((-1 : Int64) <<< (p2 &&& 0x3f).toInt64), ss, vl (((-1 : Int64).toUInt64 >>> ((-p3) &&& 0x3f).toInt64.toUInt64).toInt64), ss, uu]) rfl ?_
        refine XS.iloadN X8.here hx rfl (hb hby d20_70) rfl ?_
        refine XS.iload X8.here hx rfl (hb hby d20_71) rfl ?_
        exact k)
      by_cases hc11 : (p2 >>> ((6 : Int32) &&& 31)) = ((p3 - (1 : Int32)) >>> ((6 : Int32) &&& 31))
      · obtain ⟨T13, X13, e13, st13⟩ := getF X8 hx hZ hown (host := "") (Or.inl (ww hw 73 rfl)) Via.refl e8 F_words_o0 (g := (mkF m 77 #[va o0, vi p2, vi p3, vi (p2 >>> ((6 : Int32) &&& 31)), vi ((p3 - (1 : Int32)) >>> ((6 : Int32) &&& 31)), vl ((-1 : Int64) <<< (p2 &&& 0x3f).toInt64), ss, vl (((-1 : Int64).toUInt64 >>> ((-p3) &&& 0x3f).toInt64.toUInt64).toInt64), ss, uu] [(.ref o0)])) rfl rfl (hb hby d20_77)
        obtain ⟨x14, st14⟩ := own_laload X13 hx hZ e13 V_o1 (own_clis hs hU) (g := (mkF m 82 #[va o0, vi p2, vi p3, vi (p2 >>> ((6 : Int32) &&& 31)), vi ((p3 - (1 : Int32)) >>> ((6 : Int32) &&& 31)), vl ((-1 : Int64) <<< (p2 &&& 0x3f).toInt64), ss, vl (((-1 : Int64).toUInt64 >>> ((-p3) &&& 0x3f).toInt64.toUInt64).toInt64), ss, uu] [(.int (p2 >>> ((6 : Int32) &&& 31))), (.ref o1), (.int (p2 >>> ((6 : Int32) &&& 31))), (.ref o1)])) rfl rfl (hb hby d20_82)
        obtain ⟨T15, h15, X15, e15, W15, V15, st15⟩ := own_lastore X13 hx hZ e13 V_o1 (own_clis hs hU) (g := (mkF m 93 #[va o0, vi p2, vi p3, vi (p2 >>> ((6 : Int32) &&& 31)), vi ((p3 - (1 : Int32)) >>> ((6 : Int32) &&& 31)), vl ((-1 : Int64) <<< (p2 &&& 0x3f).toInt64), ss, vl (((-1 : Int64).toUInt64 >>> ((-p3) &&& 0x3f).toInt64.toUInt64).toInt64), ss, uu] [(.long (x14 &&& ((((-1 : Int64) <<< (p2 &&& 0x3f).toInt64) &&& (((-1 : Int64).toUInt64 >>> ((-p3) &&& 0x3f).toInt64.toUInt64).toInt64)) ^^^ (-1 : Int64)))), (.int (p2 >>> ((6 : Int32) &&& 31))), (.ref o1)])) rfl rfl (hb hby d20_93)
        have O15 := O0.wr W15 g_o1
        have K15 : Keep h0 h15 [o0, o1] := K0.wr W15 (Or.inl (List.mem_of_getElem? (i := 1) rfl))
        have N15 := Fr.snoc X15 N7 g_o1
        have fc16 := (E_o0.wr W15)
        have fc17 := (F_words_o0.other W15 (Or.inl ne_o0_o1))
        have fc18 := (F_wordsInUse_o0.other W15 (Or.inl ne_o0_o1))
        obtain ⟨cq19, qa19, qb19⟩ := fc16.cell
        obtain ⟨_, _, ⟨T19, L19, k19, n19⟩, -, X19, ⟨Lc19, hQ19, l19, y19, z19⟩, st19⟩ := X15.privateBack hx (y := My22) hown (mvT hZ (ww hw 140 rfl)) (mvT hZ (ww hw 141 rfl)) (own_selp (by decide) (mvT hZ (ww hw 54 rfl)) (mvP hZ (ww hw 142 rfl)) (mvT hZ (ww hw 141 rfl))) (Cond.privateMethod_at (mvP hZ (ww hw 142 rfl) (args := #[]))) (mvT hZ (ww hw 144 rfl)) (by decide) (backOf (W := 0) (rm22_0 l Z a0 hw []  o0 o1 p1 p0 h15 n0 O15 S fc16 fc17 fc18 V15 g_o0 hU hN) hZ (ww hw 144 rfl) (ww hw 55 rfl) (by decide) (by decide)) (g := (mkF m 155 #[va o0, vi p2, vi p3, vi (p2 >>> ((6 : Int32) &&& 31)), vi ((p3 - (1 : Int32)) >>> ((6 : Int32) &&& 31)), vl ((-1 : Int64) <<< (p2 &&& 0x3f).toInt64), ss, vl (((-1 : Int64).toUInt64 >>> ((-p3) &&& 0x3f).toInt64.toUInt64).toInt64), ss, uu] [(.ref o0)])) rfl (by rw [hml]; rfl) (Steps.refl _) (a := o0) (by rw [e15]; exact qa19) qb19 (argsL := []) (rest := []) (lenOf pd_7 rfl) rfl (by show 2 * 0 + _ ≤ _; exact Nat.le_of_eq rfl) (hb hby d20_155) (fun _ _ => ⟨rfl, e15, (by decide : 0 + 0 ≤ _), (by decide : 0 + 0 ≤ _)⟩)
        dsimp only [Pt.U, Pt.locs, Pt.cells, Pt.slots] at X19 l19 y19 z19 st19 hQ19
        subst l19 y19 z19
        obtain ⟨u_19, rfl, Nq19, Kc19, P0_19, P1_19, P2_19, np0_19⟩ := hQ19
        have N19 := Fr.app N15 Nq19
        have O19 := O15.keep Kc19 (allS g_o0 all0)
        have K19 : Keep h0 T19.heap [o0, o1] := K15.trans Kc19 (allS (Or.inl (List.mem_of_getElem? (i := 0) rfl)) all0)
        obtain ⟨cq20, qa20, qb20⟩ := P0_19.cell
        obtain ⟨_, _, ⟨T20, L20, k20, n20⟩, -, X20, ⟨Lc20, hQ20, l20, y20, z20⟩, st20⟩ := X19.privateBack hx (y := My12) hown (mvT hZ (ww hw 89 rfl)) (mvT hZ (ww hw 90 rfl)) (own_selp (by decide) (mvT hZ (ww hw 54 rfl)) (mvP hZ (ww hw 91 rfl)) (mvT hZ (ww hw 90 rfl))) (Cond.privateMethod_at (mvP hZ (ww hw 91 rfl) (args := #[]))) (mvT hZ (ww hw 93 rfl)) (by decide) (backOf (W := 0) (rm12_0 l Z a0 hw []  o0 o1 u_19 p0 T19.heap n0 O19 S) hZ (ww hw 93 rfl) (ww hw 55 rfl) (by decide) (by decide)) (g := (mkF m 159 #[va o0, vi p2, vi p3, vi (p2 >>> ((6 : Int32) &&& 31)), vi ((p3 - (1 : Int32)) >>> ((6 : Int32) &&& 31)), vl ((-1 : Int64) <<< (p2 &&& 0x3f).toInt64), ss, vl (((-1 : Int64).toUInt64 >>> ((-p3) &&& 0x3f).toInt64.toUInt64).toInt64), ss, uu] [(.ref o0)])) rfl (by rw [hml]; rfl) (Steps.refl _) (a := o0) qa20 qb20 (argsL := []) (rest := []) (lenOf pd_7 rfl) rfl (by show 2 * 0 + _ ≤ _; exact Nat.le_of_eq rfl) (hb hby d20_159) (fun _ _ => ⟨rfl, rfl, (by decide : 0 + 0 ≤ _), (by decide : 0 + 0 ≤ _)⟩)
        dsimp only [Pt.U, Pt.locs, Pt.cells, Pt.slots] at X20 l20 y20 z20 st20 hQ20
        subst l20 y20 z20
        obtain ⟨rfl, Nq20, e20⟩ := hQ20
        have N20 := Fr.app N19 Nq20
        obtain ⟨fs, hr, hrun, hended, hW, hsame⟩ := X20.leave (v := none) (fun _ => rfl) hlk
        have fc21 := (V15.keep Kc19 (ninS (Ne.symm ne_o0_o1) nin0))
        refine ⟨_, _, pre_12 _ ?_, hrun, hended, _, _, rfl, ?_, ⟨_, rfl⟩, hW, hsame.mono (by decide) (by decide)⟩
        · show Steps p.tables e below (T8.setTop (mkF m 73 #[va o0, vi p2, vi p3, vi (p2 >>> ((6 : Int32) &&& 31)), vi ((p3 - (1 : Int32)) >>> ((6 : Int32) &&& 31)), vl ((-1 : Int64) <<< (p2 &&& 0x3f).toInt64), ss, vl (((-1 : Int64).toUInt64 >>> ((-p3) &&& 0x3f).toInt64.toUInt64).toInt64), ss, uu] [(.int ((p3 - (1 : Int32)) >>> ((6 : Int32) &&& 31))), (.int (p2 >>> ((6 : Int32) &&& 31)))])) _
          refine XS.icmpNo X8.here hx rfl (hb hby d20_73) rfl (teq hc11).2 ?_
          refine XS.aloadN X8.here hx rfl (hb hby d20_76) rfl rfl ?_
          refine st13 _ ?_
          refine XS.iloadN X13.here hx rfl (hb hby d20_80) rfl ?_
          refine Jvm.Free.XT.dup2 X13.here hx rfl (hb hby d20_81) rfl rfl rfl ?_
          refine st14 _ ?_
          refine XS.lload X13.here hx rfl (hb hby d20_83) rfl ?_
          refine XS.lload X13.here hx rfl (hb hby d20_85) rfl ?_
          show Steps p.tables e below (T13.setTop (mkF m 87 #[va o0, vi p2, vi p3, vi (p2 >>> ((6 : Int32) &&& 31)), vi ((p3 - (1 : Int32)) >>> ((6 : Int32) &&& 31)), vl ((-1 : Int64) <<< (p2 &&& 0x3f).toInt64), ss, vl (((-1 : Int64).toUInt64 >>> ((-p3) &&& 0x3f).toInt64.toUInt64).toInt64), ss, uu] [(.long (((-1 : Int64).toUInt64 >>> ((-p3) &&& 0x3f).toInt64.toUInt64).toInt64)), (.long ((-1 : Int64) <<< (p2 &&& 0x3f).toInt64)), (.long x14), (.int (p2 >>> ((6 : Int32) &&& 31))), (.ref o1)])) _
          refine XS.land X13.here hx rfl (hb hby d20_87) rfl ?_
          refine X13.ldc2Long hx hown (mvT hZ (ww hw 122 rfl)) (g := (mkF m 88 #[va o0, vi p2, vi p3, vi (p2 >>> ((6 : Int32) &&& 31)), vi ((p3 - (1 : Int32)) >>> ((6 : Int32) &&& 31)), vl ((-1 : Int64) <<< (p2 &&& 0x3f).toInt64), ss, vl (((-1 : Int64).toUInt64 >>> ((-p3) &&& 0x3f).toInt64.toUInt64).toInt64), ss, uu] [(.long (((-1 : Int64) <<< (p2 &&& 0x3f).toInt64) &&& (((-1 : Int64).toUInt64 >>> ((-p3) &&& 0x3f).toInt64.toUInt64).toInt64))), (.long x14), (.int (p2 >>> ((6 : Int32) &&& 31))), (.ref o1)])) rfl (hb hby d20_88) _ ?_
          refine XS.lxor X13.here hx rfl (hb hby d20_91) rfl ?_
          refine XS.land X13.here hx rfl (hb hby d20_92) rfl ?_
          refine st15 _ ?_
          refine XS.goto X15.here hx rfl (pc0 := 94) (pc' := 154) rfl (hb hby d20_94) (by decide) (by decide) ?_
          refine XS.aloadN X15.here hx rfl (hb hby d20_154) rfl rfl ?_
          refine st19.trans ?_
          show Steps p.tables e below (T19.setTop (mkF m 158 #[va o0, vi p2, vi p3, vi (p2 >>> ((6 : Int32) &&& 31)), vi ((p3 - (1 : Int32)) >>> ((6 : Int32) &&& 31)), vl ((-1 : Int64) <<< (p2 &&& 0x3f).toInt64), ss, vl (((-1 : Int64).toUInt64 >>> ((-p3) &&& 0x3f).toInt64.toUInt64).toInt64), ss, uu] [])) _
          refine XS.aloadN X19.here hx rfl (hb hby d20_158) rfl rfl ?_
          refine st20.trans ?_
          exact X20.returnOut hx hrt (hb hby d20_162) hr
        · show Q20_0 Z  o0 o1 p1 p0 p2 p3 h0 n0 none T20.heap _
          rw [e20]; exact ⟨u_19, rfl, N20, K19, P0_19, P1_19, P2_19, fc21, np0_19⟩
      · obtain ⟨T13, X13, e13, st13⟩ := getF X8 hx hZ hown (host := "") (Or.inl (ww hw 73 rfl)) Via.refl e8 F_words_o0 (g := (mkF m 98 #[va o0, vi p2, vi p3, vi (p2 >>> ((6 : Int32) &&& 31)), vi ((p3 - (1 : Int32)) >>> ((6 : Int32) &&& 31)), vl ((-1 : Int64) <<< (p2 &&& 0x3f).toInt64), ss, vl (((-1 : Int64).toUInt64 >>> ((-p3) &&& 0x3f).toInt64.toUInt64).toInt64), ss, uu] [(.ref o0)])) rfl rfl (hb hby d20_98)
        obtain ⟨x14, st14⟩ := own_laload X13 hx hZ e13 V_o1 (own_clis hs hU) (g := (mkF m 103 #[va o0, vi p2, vi p3, vi (p2 >>> ((6 : Int32) &&& 31)), vi ((p3 - (1 : Int32)) >>> ((6 : Int32) &&& 31)), vl ((-1 : Int64) <<< (p2 &&& 0x3f).toInt64), ss, vl (((-1 : Int64).toUInt64 >>> ((-p3) &&& 0x3f).toInt64.toUInt64).toInt64), ss, uu] [(.int (p2 >>> ((6 : Int32) &&& 31))), (.ref o1), (.int (p2 >>> ((6 : Int32) &&& 31))), (.ref o1)])) rfl rfl (hb hby d20_103)
        obtain ⟨T15, h15, X15, e15, W15, V15, st15⟩ := own_lastore X13 hx hZ e13 V_o1 (own_clis hs hU) (g := (mkF m 111 #[va o0, vi p2, vi p3, vi (p2 >>> ((6 : Int32) &&& 31)), vi ((p3 - (1 : Int32)) >>> ((6 : Int32) &&& 31)), vl ((-1 : Int64) <<< (p2 &&& 0x3f).toInt64), ss, vl (((-1 : Int64).toUInt64 >>> ((-p3) &&& 0x3f).toInt64.toUInt64).toInt64), ss, uu] [(.long (x14 &&& (((-1 : Int64) <<< (p2 &&& 0x3f).toInt64) ^^^ (-1 : Int64)))), (.int (p2 >>> ((6 : Int32) &&& 31))), (.ref o1)])) rfl rfl (hb hby d20_111)
        have O15 := O0.wr W15 g_o1
        have K15 : Keep h0 h15 [o0, o1] := K0.wr W15 (Or.inl (List.mem_of_getElem? (i := 1) rfl))
        have N15 := Fr.snoc X15 N7 g_o1
        have pre_17 : ∀ t, Steps p.tables e below (T15.setTop (mkF m 121 #[va o0, vi p2, vi p3, vi (p2 >>> ((6 : Int32) &&& 31)), vi ((p3 - (1 : Int32)) >>> ((6 : Int32) &&& 31)), vl ((-1 : Int64) <<< (p2 &&& 0x3f).toInt64), ss, vl (((-1 : Int64).toUInt64 >>> ((-p3) &&& 0x3f).toInt64.toUInt64).toInt64), ss, vi ((p2 >>> ((6 : Int32) &&& 31)) + (1 : Int32))] [(.int ((p3 - (1 : Int32)) >>> ((6 : Int32) &&& 31))), (.int ((p2 >>> ((6 : Int32) &&& 31)) + (1 : Int32)))])) t → Steps p.tables e below (s₁.setTop (mkF m 0 #[va o0, vi p2, vi p3, uu, uu, uu, uu, uu, uu, uu] [])) t := fun t k => pre_12 t (by
          show Steps p.tables e below (T8.setTop (mkF m 73 #[va o0, vi p2, vi p3, vi (p2 >>> ((6 : Int32) &&& 31)), vi ((p3 - (1 : Int32)) >>> ((6 : Int32) &&& 31)), vl ((-1 : Int64) <<< (p2 &&& 0x3f).toInt64), ss, vl (((-1 : Int64).toUInt64 >>> ((-p3) &&& 0x3f).toInt64.toUInt64).toInt64), ss, uu] [(.int ((p3 - (1 : Int32)) >>> ((6 : Int32) &&& 31))), (.int (p2 >>> ((6 : Int32) &&& 31)))])) _
          refine XS.icmpYes X8.here hx rfl (pc0 := 73) (pc' := 97) rfl (hb hby d20_73) rfl (feq hc11).2 (by decide) (by decide) ?_
          refine XS.aloadN X8.here hx rfl (hb hby d20_97) rfl rfl ?_
          refine st13 _ ?_
          refine XS.iloadN X13.here hx rfl (hb hby d20_101) rfl ?_
          refine Jvm.Free.XT.dup2 X13.here hx rfl (hb hby d20_102) rfl rfl rfl ?_
          refine st14 _ ?_
          refine XS.lload X13.here hx rfl (hb hby d20_104) rfl ?_
          refine X13.ldc2Long hx hown (mvT hZ (ww hw 122 rfl)) (g := (mkF m 106 #[va o0, vi p2, vi p3, vi (p2 >>> ((6 : Int32) &&& 31)), vi ((p3 - (1 : Int32)) >>> ((6 : Int32) &&& 31)), vl ((-1 : Int64) <<< (p2 &&& 0x3f).toInt64), ss, vl (((-1 : Int64).toUInt64 >>> ((-p3) &&& 0x3f).toInt64.toUInt64).toInt64), ss, uu] [(.long ((-1 : Int64) <<< (p2 &&& 0x3f).toInt64)), (.long x14), (.int (p2 >>> ((6 : Int32) &&& 31))), (.ref o1)])) rfl (hb hby d20_106) _ ?_
          show Steps p.tables e below (T13.setTop (mkF m 109 #[va o0, vi p2, vi p3, vi (p2 >>> ((6 : Int32) &&& 31)), vi ((p3 - (1 : Int32)) >>> ((6 : Int32) &&& 31)), vl ((-1 : Int64) <<< (p2 &&& 0x3f).toInt64), ss, vl (((-1 : Int64).toUInt64 >>> ((-p3) &&& 0x3f).toInt64.toUInt64).toInt64), ss, uu] [(.long (-1)), (.long ((-1 : Int64) <<< (p2 &&& 0x3f).toInt64)), (.long x14), (.int (p2 >>> ((6 : Int32) &&& 31))), (.ref o1)])) _
          refine XS.lxor X13.here hx rfl (hb hby d20_109) rfl ?_
          refine XS.land X13.here hx rfl (hb hby d20_110) rfl ?_
          refine st15 _ ?_
          refine XS.iloadN X15.here hx rfl (hb hby d20_112) rfl ?_
          refine XS.iconst X15.here hx rfl (hb hby d20_113) ?_
          refine XS.iadd X15.here hx rfl (hb hby d20_114) rfl ?_
          refine XS.istore X15.here hx rfl (hb hby d20_115) rfl (l' := #[va o0, vi p2, vi p3, vi (p2 >>> ((6 : Int32) &&& 31)), vi ((p3 - (1 : Int32)) >>> ((6 : Int32) &&& 31)), vl ((-1 : Int64) <<< (p2 &&& 0x3f).toInt64), ss, vl (((-1 : Int64).toUInt64 >>> ((-p3) &&& 0x3f).toInt64.toUInt64).toInt64), ss, vi ((p2 >>> ((6 : Int32) &&& 31)) + (1 : Int32))]) rfl ?_
          refine XS.iload X15.here hx rfl (hb hby d20_117) rfl ?_
          show Steps p.tables e below (T15.setTop (mkF m 119 #[va o0, vi p2, vi p3, vi (p2 >>> ((6 : Int32) &&& 31)), vi ((p3 - (1 : Int32)) >>> ((6 : Int32) &&& 31)), vl ((-1 : Int64) <<< (p2 &&& 0x3f).toInt64), ss, vl (((-1 : Int64).toUInt64 >>> ((-p3) &&& 0x3f).toInt64.toUInt64).toInt64), ss, vi ((p2 >>> ((6 : Int32) &&& 31)) + (1 : Int32))] [(.int ((p2 >>> ((6 : Int32) &&& 31)) + (1 : Int32)))])) _
          refine XS.iload X15.here hx rfl (hb hby d20_119) rfl ?_
          exact k)
        by_cases hc16 : ((p2 >>> ((6 : Int32) &&& 31)) + (1 : Int32)) < ((p3 - (1 : Int32)) >>> ((6 : Int32) &&& 31))
        · have fc18 := (F_words_o0.other W15 (Or.inl ne_o0_o1))
          obtain ⟨T19, X19, e19, st19⟩ := getF X15 hx hZ hown (host := "") (Or.inl (ww hw 73 rfl)) Via.refl e15 fc18 (g := (mkF m 125 #[va o0, vi p2, vi p3, vi (p2 >>> ((6 : Int32) &&& 31)), vi ((p3 - (1 : Int32)) >>> ((6 : Int32) &&& 31)), vl ((-1 : Int64) <<< (p2 &&& 0x3f).toInt64), ss, vl (((-1 : Int64).toUInt64 >>> ((-p3) &&& 0x3f).toInt64.toUInt64).toInt64), ss, vi ((p2 >>> ((6 : Int32) &&& 31)) + (1 : Int32))] [(.ref o0)])) rfl rfl (hb hby d20_125)
          obtain ⟨T20, h20, X20, e20, W20, V20, st20⟩ := own_lastore X19 hx hZ e19 V15 (own_clil1 hs he hc16 hU hN) (g := (mkF m 131 #[va o0, vi p2, vi p3, vi (p2 >>> ((6 : Int32) &&& 31)), vi ((p3 - (1 : Int32)) >>> ((6 : Int32) &&& 31)), vl ((-1 : Int64) <<< (p2 &&& 0x3f).toInt64), ss, vl (((-1 : Int64).toUInt64 >>> ((-p3) &&& 0x3f).toInt64.toUInt64).toInt64), ss, vi ((p2 >>> ((6 : Int32) &&& 31)) + (1 : Int32))] [(.long 0), (.int ((p2 >>> ((6 : Int32) &&& 31)) + (1 : Int32))), (.ref o1)])) rfl rfl (hb hby d20_131)
          have O20 := O15.wr W20 g_o1
          have K20 : Keep h0 h20 [o0, o1] := K15.wr W20 (Or.inl (List.mem_of_getElem? (i := 1) rfl))
          have N20 := Fr.snoc X20 N15 g_o1
          have pre_22 : ∀ t, Steps p.tables e below (T20.setTop (mkF m 121 #[va o0, vi p2, vi p3, vi (p2 >>> ((6 : Int32) &&& 31)), vi ((p3 - (1 : Int32)) >>> ((6 : Int32) &&& 31)), vl ((-1 : Int64) <<< (p2 &&& 0x3f).toInt64), ss, vl (((-1 : Int64).toUInt64 >>> ((-p3) &&& 0x3f).toInt64.toUInt64).toInt64), ss, vi (((p2 >>> ((6 : Int32) &&& 31)) + (1 : Int32)) + (1 : Int32))] [(.int ((p3 - (1 : Int32)) >>> ((6 : Int32) &&& 31))), (.int (((p2 >>> ((6 : Int32) &&& 31)) + (1 : Int32)) + (1 : Int32)))])) t → Steps p.tables e below (s₁.setTop (mkF m 0 #[va o0, vi p2, vi p3, uu, uu, uu, uu, uu, uu, uu] [])) t := fun t k => pre_17 t (by
            show Steps p.tables e below (T15.setTop (mkF m 121 #[va o0, vi p2, vi p3, vi (p2 >>> ((6 : Int32) &&& 31)), vi ((p3 - (1 : Int32)) >>> ((6 : Int32) &&& 31)), vl ((-1 : Int64) <<< (p2 &&& 0x3f).toInt64), ss, vl (((-1 : Int64).toUInt64 >>> ((-p3) &&& 0x3f).toInt64.toUInt64).toInt64), ss, vi ((p2 >>> ((6 : Int32) &&& 31)) + (1 : Int32))] [(.int ((p3 - (1 : Int32)) >>> ((6 : Int32) &&& 31))), (.int ((p2 >>> ((6 : Int32) &&& 31)) + (1 : Int32)))])) _
            refine XS.icmpNo X15.here hx rfl (hb hby d20_121) rfl (tlt hc16).2.1 ?_
            refine XS.aloadN X15.here hx rfl (hb hby d20_124) rfl rfl ?_
            refine st19 _ ?_
            refine XS.iload X19.here hx rfl (hb hby d20_128) rfl ?_
            refine XS.lconst X19.here hx rfl (hb hby d20_130) ?_
            refine st20 _ ?_
            refine XS.iinc X20.here hx rfl (hb hby d20_132) rfl (l' := #[va o0, vi p2, vi p3, vi (p2 >>> ((6 : Int32) &&& 31)), vi ((p3 - (1 : Int32)) >>> ((6 : Int32) &&& 31)), vl ((-1 : Int64) <<< (p2 &&& 0x3f).toInt64), ss, vl (((-1 : Int64).toUInt64 >>> ((-p3) &&& 0x3f).toInt64.toUInt64).toInt64), ss, vi (((p2 >>> ((6 : Int32) &&& 31)) + (1 : Int32)) + (1 : Int32))]) rfl ?_
            refine XS.goto X20.here hx rfl (pc0 := 135) (pc' := 117) rfl (hb hby d20_135) (by decide) (by decide) ?_
            show Steps p.tables e below (T20.setTop (mkF m 117 #[va o0, vi p2, vi p3, vi (p2 >>> ((6 : Int32) &&& 31)), vi ((p3 - (1 : Int32)) >>> ((6 : Int32) &&& 31)), vl ((-1 : Int64) <<< (p2 &&& 0x3f).toInt64), ss, vl (((-1 : Int64).toUInt64 >>> ((-p3) &&& 0x3f).toInt64.toUInt64).toInt64), ss, vi (((p2 >>> ((6 : Int32) &&& 31)) + (1 : Int32)) + (1 : Int32))] [])) _
            refine XS.iload X20.here hx rfl (hb hby d20_117) rfl ?_
            refine XS.iload X20.here hx rfl (hb hby d20_119) rfl ?_
            exact k)
          by_cases hc21 : (((p2 >>> ((6 : Int32) &&& 31)) + (1 : Int32)) + (1 : Int32)) < ((p3 - (1 : Int32)) >>> ((6 : Int32) &&& 31))
          · have fc23 := (fc18.other W20 (Or.inl ne_o0_o1))
            obtain ⟨T24, X24, e24, st24⟩ := getF X20 hx hZ hown (host := "") (Or.inl (ww hw 73 rfl)) Via.refl e20 fc23 (g := (mkF m 125 #[va o0, vi p2, vi p3, vi (p2 >>> ((6 : Int32) &&& 31)), vi ((p3 - (1 : Int32)) >>> ((6 : Int32) &&& 31)), vl ((-1 : Int64) <<< (p2 &&& 0x3f).toInt64), ss, vl (((-1 : Int64).toUInt64 >>> ((-p3) &&& 0x3f).toInt64.toUInt64).toInt64), ss, vi (((p2 >>> ((6 : Int32) &&& 31)) + (1 : Int32)) + (1 : Int32))] [(.ref o0)])) rfl rfl (hb hby d20_125)
            obtain ⟨T25, h25, X25, e25, W25, V25, st25⟩ := own_lastore X24 hx hZ e24 V20 (own_clil2 hs he hc21 hU hN) (g := (mkF m 131 #[va o0, vi p2, vi p3, vi (p2 >>> ((6 : Int32) &&& 31)), vi ((p3 - (1 : Int32)) >>> ((6 : Int32) &&& 31)), vl ((-1 : Int64) <<< (p2 &&& 0x3f).toInt64), ss, vl (((-1 : Int64).toUInt64 >>> ((-p3) &&& 0x3f).toInt64.toUInt64).toInt64), ss, vi (((p2 >>> ((6 : Int32) &&& 31)) + (1 : Int32)) + (1 : Int32))] [(.long 0), (.int (((p2 >>> ((6 : Int32) &&& 31)) + (1 : Int32)) + (1 : Int32))), (.ref o1)])) rfl rfl (hb hby d20_131)
            have O25 := O20.wr W25 g_o1
            have K25 : Keep h0 h25 [o0, o1] := K20.wr W25 (Or.inl (List.mem_of_getElem? (i := 1) rfl))
            have N25 := Fr.snoc X25 N20 g_o1
            have hc26 : ¬ (((((p2 >>> ((6 : Int32) &&& 31)) + (1 : Int32)) + (1 : Int32)) + (1 : Int32)) < ((p3 - (1 : Int32)) >>> ((6 : Int32) &&& 31))) := (own_cl3 he hs hU hN)
            have fc27 := (fc23.other W25 (Or.inl ne_o0_o1))
            obtain ⟨T28, X28, e28, st28⟩ := getF X25 hx hZ hown (host := "") (Or.inl (ww hw 73 rfl)) Via.refl e25 fc27 (g := (mkF m 139 #[va o0, vi p2, vi p3, vi (p2 >>> ((6 : Int32) &&& 31)), vi ((p3 - (1 : Int32)) >>> ((6 : Int32) &&& 31)), vl ((-1 : Int64) <<< (p2 &&& 0x3f).toInt64), ss, vl (((-1 : Int64).toUInt64 >>> ((-p3) &&& 0x3f).toInt64.toUInt64).toInt64), ss, vi ((((p2 >>> ((6 : Int32) &&& 31)) + (1 : Int32)) + (1 : Int32)) + (1 : Int32))] [(.ref o0)])) rfl rfl (hb hby d20_139)
            obtain ⟨x29, st29⟩ := own_laload X28 hx hZ e28 V25 (own_clie hs he hU) (g := (mkF m 145 #[va o0, vi p2, vi p3, vi (p2 >>> ((6 : Int32) &&& 31)), vi ((p3 - (1 : Int32)) >>> ((6 : Int32) &&& 31)), vl ((-1 : Int64) <<< (p2 &&& 0x3f).toInt64), ss, vl (((-1 : Int64).toUInt64 >>> ((-p3) &&& 0x3f).toInt64.toUInt64).toInt64), ss, vi ((((p2 >>> ((6 : Int32) &&& 31)) + (1 : Int32)) + (1 : Int32)) + (1 : Int32))] [(.int ((p3 - (1 : Int32)) >>> ((6 : Int32) &&& 31))), (.ref o1), (.int ((p3 - (1 : Int32)) >>> ((6 : Int32) &&& 31))), (.ref o1)])) rfl rfl (hb hby d20_145)
            obtain ⟨T30, h30, X30, e30, W30, V30, st30⟩ := own_lastore X28 hx hZ e28 V25 (own_clie hs he hU) (g := (mkF m 153 #[va o0, vi p2, vi p3, vi (p2 >>> ((6 : Int32) &&& 31)), vi ((p3 - (1 : Int32)) >>> ((6 : Int32) &&& 31)), vl ((-1 : Int64) <<< (p2 &&& 0x3f).toInt64), ss, vl (((-1 : Int64).toUInt64 >>> ((-p3) &&& 0x3f).toInt64.toUInt64).toInt64), ss, vi ((((p2 >>> ((6 : Int32) &&& 31)) + (1 : Int32)) + (1 : Int32)) + (1 : Int32))] [(.long (x29 &&& ((((-1 : Int64).toUInt64 >>> ((-p3) &&& 0x3f).toInt64.toUInt64).toInt64) ^^^ (-1 : Int64)))), (.int ((p3 - (1 : Int32)) >>> ((6 : Int32) &&& 31))), (.ref o1)])) rfl rfl (hb hby d20_153)
            have O30 := O25.wr W30 g_o1
            have K30 : Keep h0 h30 [o0, o1] := K25.wr W30 (Or.inl (List.mem_of_getElem? (i := 1) rfl))
            have N30 := Fr.snoc X30 N25 g_o1
            have fc31 := ((((E_o0.wr W15).wr W20).wr W25).wr W30)
            have fc32 := (fc27.other W30 (Or.inl ne_o0_o1))
            have fc33 := ((((F_wordsInUse_o0.other W15 (Or.inl ne_o0_o1)).other W20 (Or.inl ne_o0_o1)).other W25 (Or.inl ne_o0_o1)).other W30 (Or.inl ne_o0_o1))
            obtain ⟨cq34, qa34, qb34⟩ := fc31.cell
            obtain ⟨_, _, ⟨T34, L34, k34, n34⟩, -, X34, ⟨Lc34, hQ34, l34, y34, z34⟩, st34⟩ := X30.privateBack hx (y := My22) hown (mvT hZ (ww hw 140 rfl)) (mvT hZ (ww hw 141 rfl)) (own_selp (by decide) (mvT hZ (ww hw 54 rfl)) (mvP hZ (ww hw 142 rfl)) (mvT hZ (ww hw 141 rfl))) (Cond.privateMethod_at (mvP hZ (ww hw 142 rfl) (args := #[]))) (mvT hZ (ww hw 144 rfl)) (by decide) (backOf (W := 0) (rm22_0 l Z a0 hw []  o0 o1 p1 p0 h30 n0 O30 S fc31 fc32 fc33 V30 g_o0 hU hN) hZ (ww hw 144 rfl) (ww hw 55 rfl) (by decide) (by decide)) (g := (mkF m 155 #[va o0, vi p2, vi p3, vi (p2 >>> ((6 : Int32) &&& 31)), vi ((p3 - (1 : Int32)) >>> ((6 : Int32) &&& 31)), vl ((-1 : Int64) <<< (p2 &&& 0x3f).toInt64), ss, vl (((-1 : Int64).toUInt64 >>> ((-p3) &&& 0x3f).toInt64.toUInt64).toInt64), ss, vi ((((p2 >>> ((6 : Int32) &&& 31)) + (1 : Int32)) + (1 : Int32)) + (1 : Int32))] [(.ref o0)])) rfl (by rw [hml]; rfl) (Steps.refl _) (a := o0) (by rw [e30]; exact qa34) qb34 (argsL := []) (rest := []) (lenOf pd_7 rfl) rfl (by show 2 * 0 + _ ≤ _; exact Nat.le_of_eq rfl) (hb hby d20_155) (fun _ _ => ⟨rfl, e30, (by decide : 0 + 0 ≤ _), (by decide : 0 + 0 ≤ _)⟩)
            dsimp only [Pt.U, Pt.locs, Pt.cells, Pt.slots] at X34 l34 y34 z34 st34 hQ34
            subst l34 y34 z34
            obtain ⟨u_34, rfl, Nq34, Kc34, P0_34, P1_34, P2_34, np0_34⟩ := hQ34
            have N34 := Fr.app N30 Nq34
            have O34 := O30.keep Kc34 (allS g_o0 all0)
            have K34 : Keep h0 T34.heap [o0, o1] := K30.trans Kc34 (allS (Or.inl (List.mem_of_getElem? (i := 0) rfl)) all0)
            obtain ⟨cq35, qa35, qb35⟩ := P0_34.cell
            obtain ⟨_, _, ⟨T35, L35, k35, n35⟩, -, X35, ⟨Lc35, hQ35, l35, y35, z35⟩, st35⟩ := X34.privateBack hx (y := My12) hown (mvT hZ (ww hw 89 rfl)) (mvT hZ (ww hw 90 rfl)) (own_selp (by decide) (mvT hZ (ww hw 54 rfl)) (mvP hZ (ww hw 91 rfl)) (mvT hZ (ww hw 90 rfl))) (Cond.privateMethod_at (mvP hZ (ww hw 91 rfl) (args := #[]))) (mvT hZ (ww hw 93 rfl)) (by decide) (backOf (W := 0) (rm12_0 l Z a0 hw []  o0 o1 u_34 p0 T34.heap n0 O34 S) hZ (ww hw 93 rfl) (ww hw 55 rfl) (by decide) (by decide)) (g := (mkF m 159 #[va o0, vi p2, vi p3, vi (p2 >>> ((6 : Int32) &&& 31)), vi ((p3 - (1 : Int32)) >>> ((6 : Int32) &&& 31)), vl ((-1 : Int64) <<< (p2 &&& 0x3f).toInt64), ss, vl (((-1 : Int64).toUInt64 >>> ((-p3) &&& 0x3f).toInt64.toUInt64).toInt64), ss, vi ((((p2 >>> ((6 : Int32) &&& 31)) + (1 : Int32)) + (1 : Int32)) + (1 : Int32))] [(.ref o0)])) rfl (by rw [hml]; rfl) (Steps.refl _) (a := o0) qa35 qb35 (argsL := []) (rest := []) (lenOf pd_7 rfl) rfl (by show 2 * 0 + _ ≤ _; exact Nat.le_of_eq rfl) (hb hby d20_159) (fun _ _ => ⟨rfl, rfl, (by decide : 0 + 0 ≤ _), (by decide : 0 + 0 ≤ _)⟩)
            dsimp only [Pt.U, Pt.locs, Pt.cells, Pt.slots] at X35 l35 y35 z35 st35 hQ35
            subst l35 y35 z35
            obtain ⟨rfl, Nq35, e35⟩ := hQ35
            have N35 := Fr.app N34 Nq35
            obtain ⟨fs, hr, hrun, hended, hW, hsame⟩ := X35.leave (v := none) (fun _ => rfl) hlk
            have fc36 := (V30.keep Kc34 (ninS (Ne.symm ne_o0_o1) nin0))
            refine ⟨_, _, pre_22 _ ?_, hrun, hended, _, _, rfl, ?_, ⟨_, rfl⟩, hW, hsame.mono (by decide) (by decide)⟩
            · show Steps p.tables e below (T20.setTop (mkF m 121 #[va o0, vi p2, vi p3, vi (p2 >>> ((6 : Int32) &&& 31)), vi ((p3 - (1 : Int32)) >>> ((6 : Int32) &&& 31)), vl ((-1 : Int64) <<< (p2 &&& 0x3f).toInt64), ss, vl (((-1 : Int64).toUInt64 >>> ((-p3) &&& 0x3f).toInt64.toUInt64).toInt64), ss, vi (((p2 >>> ((6 : Int32) &&& 31)) + (1 : Int32)) + (1 : Int32))] [(.int ((p3 - (1 : Int32)) >>> ((6 : Int32) &&& 31))), (.int (((p2 >>> ((6 : Int32) &&& 31)) + (1 : Int32)) + (1 : Int32)))])) _
              refine XS.icmpNo X20.here hx rfl (hb hby d20_121) rfl (tlt hc21).2.1 ?_
              refine XS.aloadN X20.here hx rfl (hb hby d20_124) rfl rfl ?_
              refine st24 _ ?_
              refine XS.iload X24.here hx rfl (hb hby d20_128) rfl ?_
              refine XS.lconst X24.here hx rfl (hb hby d20_130) ?_
              refine st25 _ ?_
              refine XS.iinc X25.here hx rfl (hb hby d20_132) rfl (l' := #[va o0, vi p2, vi p3, vi (p2 >>> ((6 : Int32) &&& 31)), vi ((p3 - (1 : Int32)) >>> ((6 : Int32) &&& 31)), vl ((-1 : Int64) <<< (p2 &&& 0x3f).toInt64), ss, vl (((-1 : Int64).toUInt64 >>> ((-p3) &&& 0x3f).toInt64.toUInt64).toInt64), ss, vi ((((p2 >>> ((6 : Int32) &&& 31)) + (1 : Int32)) + (1 : Int32)) + (1 : Int32))]) rfl ?_
              refine XS.goto X25.here hx rfl (pc0 := 135) (pc' := 117) rfl (hb hby d20_135) (by decide) (by decide) ?_
              show Steps p.tables e below (T25.setTop (mkF m 117 #[va o0, vi p2, vi p3, vi (p2 >>> ((6 : Int32) &&& 31)), vi ((p3 - (1 : Int32)) >>> ((6 : Int32) &&& 31)), vl ((-1 : Int64) <<< (p2 &&& 0x3f).toInt64), ss, vl (((-1 : Int64).toUInt64 >>> ((-p3) &&& 0x3f).toInt64.toUInt64).toInt64), ss, vi ((((p2 >>> ((6 : Int32) &&& 31)) + (1 : Int32)) + (1 : Int32)) + (1 : Int32))] [])) _
              refine XS.iload X25.here hx rfl (hb hby d20_117) rfl ?_
              refine XS.iload X25.here hx rfl (hb hby d20_119) rfl ?_
              refine XS.icmpYes X25.here hx rfl (pc0 := 121) (pc' := 138) rfl (hb hby d20_121) rfl (flt hc26).2.1 (by decide) (by decide) ?_
              refine XS.aloadN X25.here hx rfl (hb hby d20_138) rfl rfl ?_
              refine st28 _ ?_
              refine XS.iload X28.here hx rfl (hb hby d20_142) rfl ?_
              refine Jvm.Free.XT.dup2 X28.here hx rfl (hb hby d20_144) rfl rfl rfl ?_
              refine st29 _ ?_
              show Steps p.tables e below (T28.setTop (mkF m 146 #[va o0, vi p2, vi p3, vi (p2 >>> ((6 : Int32) &&& 31)), vi ((p3 - (1 : Int32)) >>> ((6 : Int32) &&& 31)), vl ((-1 : Int64) <<< (p2 &&& 0x3f).toInt64), ss, vl (((-1 : Int64).toUInt64 >>> ((-p3) &&& 0x3f).toInt64.toUInt64).toInt64), ss, vi ((((p2 >>> ((6 : Int32) &&& 31)) + (1 : Int32)) + (1 : Int32)) + (1 : Int32))] [(.long x29), (.int ((p3 - (1 : Int32)) >>> ((6 : Int32) &&& 31))), (.ref o1)])) _
              refine XS.lload X28.here hx rfl (hb hby d20_146) rfl ?_
              refine X28.ldc2Long hx hown (mvT hZ (ww hw 122 rfl)) (g := (mkF m 148 #[va o0, vi p2, vi p3, vi (p2 >>> ((6 : Int32) &&& 31)), vi ((p3 - (1 : Int32)) >>> ((6 : Int32) &&& 31)), vl ((-1 : Int64) <<< (p2 &&& 0x3f).toInt64), ss, vl (((-1 : Int64).toUInt64 >>> ((-p3) &&& 0x3f).toInt64.toUInt64).toInt64), ss, vi ((((p2 >>> ((6 : Int32) &&& 31)) + (1 : Int32)) + (1 : Int32)) + (1 : Int32))] [(.long (((-1 : Int64).toUInt64 >>> ((-p3) &&& 0x3f).toInt64.toUInt64).toInt64)), (.long x29), (.int ((p3 - (1 : Int32)) >>> ((6 : Int32) &&& 31))), (.ref o1)])) rfl (hb hby d20_148) _ ?_
              refine XS.lxor X28.here hx rfl (hb hby d20_151) rfl ?_
              refine XS.land X28.here hx rfl (hb hby d20_152) rfl ?_
              refine st30 _ ?_
              refine XS.aloadN X30.here hx rfl (hb hby d20_154) rfl rfl ?_
              refine st34.trans ?_
              refine XS.aloadN X34.here hx rfl (hb hby d20_158) rfl rfl ?_
              show Steps p.tables e below (T34.setTop (mkF m 159 #[va o0, vi p2, vi p3, vi (p2 >>> ((6 : Int32) &&& 31)), vi ((p3 - (1 : Int32)) >>> ((6 : Int32) &&& 31)), vl ((-1 : Int64) <<< (p2 &&& 0x3f).toInt64), ss, vl (((-1 : Int64).toUInt64 >>> ((-p3) &&& 0x3f).toInt64.toUInt64).toInt64), ss, vi ((((p2 >>> ((6 : Int32) &&& 31)) + (1 : Int32)) + (1 : Int32)) + (1 : Int32))] [(.ref o0)])) _
              refine st35.trans ?_
              exact X35.returnOut hx hrt (hb hby d20_162) hr
            · show Q20_0 Z  o0 o1 p1 p0 p2 p3 h0 n0 none T35.heap _
              rw [e35]; exact ⟨u_34, rfl, N35, K34, P0_34, P1_34, P2_34, fc36, np0_34⟩
          · have fc23 := (fc18.other W20 (Or.inl ne_o0_o1))
            obtain ⟨T24, X24, e24, st24⟩ := getF X20 hx hZ hown (host := "") (Or.inl (ww hw 73 rfl)) Via.refl e20 fc23 (g := (mkF m 139 #[va o0, vi p2, vi p3, vi (p2 >>> ((6 : Int32) &&& 31)), vi ((p3 - (1 : Int32)) >>> ((6 : Int32) &&& 31)), vl ((-1 : Int64) <<< (p2 &&& 0x3f).toInt64), ss, vl (((-1 : Int64).toUInt64 >>> ((-p3) &&& 0x3f).toInt64.toUInt64).toInt64), ss, vi (((p2 >>> ((6 : Int32) &&& 31)) + (1 : Int32)) + (1 : Int32))] [(.ref o0)])) rfl rfl (hb hby d20_139)
            obtain ⟨x25, st25⟩ := own_laload X24 hx hZ e24 V20 (own_clie hs he hU) (g := (mkF m 145 #[va o0, vi p2, vi p3, vi (p2 >>> ((6 : Int32) &&& 31)), vi ((p3 - (1 : Int32)) >>> ((6 : Int32) &&& 31)), vl ((-1 : Int64) <<< (p2 &&& 0x3f).toInt64), ss, vl (((-1 : Int64).toUInt64 >>> ((-p3) &&& 0x3f).toInt64.toUInt64).toInt64), ss, vi (((p2 >>> ((6 : Int32) &&& 31)) + (1 : Int32)) + (1 : Int32))] [(.int ((p3 - (1 : Int32)) >>> ((6 : Int32) &&& 31))), (.ref o1), (.int ((p3 - (1 : Int32)) >>> ((6 : Int32) &&& 31))), (.ref o1)])) rfl rfl (hb hby d20_145)
            obtain ⟨T26, h26, X26, e26, W26, V26, st26⟩ := own_lastore X24 hx hZ e24 V20 (own_clie hs he hU) (g := (mkF m 153 #[va o0, vi p2, vi p3, vi (p2 >>> ((6 : Int32) &&& 31)), vi ((p3 - (1 : Int32)) >>> ((6 : Int32) &&& 31)), vl ((-1 : Int64) <<< (p2 &&& 0x3f).toInt64), ss, vl (((-1 : Int64).toUInt64 >>> ((-p3) &&& 0x3f).toInt64.toUInt64).toInt64), ss, vi (((p2 >>> ((6 : Int32) &&& 31)) + (1 : Int32)) + (1 : Int32))] [(.long (x25 &&& ((((-1 : Int64).toUInt64 >>> ((-p3) &&& 0x3f).toInt64.toUInt64).toInt64) ^^^ (-1 : Int64)))), (.int ((p3 - (1 : Int32)) >>> ((6 : Int32) &&& 31))), (.ref o1)])) rfl rfl (hb hby d20_153)
            have O26 := O20.wr W26 g_o1
            have K26 : Keep h0 h26 [o0, o1] := K20.wr W26 (Or.inl (List.mem_of_getElem? (i := 1) rfl))
            have N26 := Fr.snoc X26 N20 g_o1
            have fc27 := (((E_o0.wr W15).wr W20).wr W26)
            have fc28 := (fc23.other W26 (Or.inl ne_o0_o1))
            have fc29 := (((F_wordsInUse_o0.other W15 (Or.inl ne_o0_o1)).other W20 (Or.inl ne_o0_o1)).other W26 (Or.inl ne_o0_o1))
            obtain ⟨cq30, qa30, qb30⟩ := fc27.cell
            obtain ⟨_, _, ⟨T30, L30, k30, n30⟩, -, X30, ⟨Lc30, hQ30, l30, y30, z30⟩, st30⟩ := X26.privateBack hx (y := My22) hown (mvT hZ (ww hw 140 rfl)) (mvT hZ (ww hw 141 rfl)) (own_selp (by decide) (mvT hZ (ww hw 54 rfl)) (mvP hZ (ww hw 142 rfl)) (mvT hZ (ww hw 141 rfl))) (Cond.privateMethod_at (mvP hZ (ww hw 142 rfl) (args := #[]))) (mvT hZ (ww hw 144 rfl)) (by decide) (backOf (W := 0) (rm22_0 l Z a0 hw []  o0 o1 p1 p0 h26 n0 O26 S fc27 fc28 fc29 V26 g_o0 hU hN) hZ (ww hw 144 rfl) (ww hw 55 rfl) (by decide) (by decide)) (g := (mkF m 155 #[va o0, vi p2, vi p3, vi (p2 >>> ((6 : Int32) &&& 31)), vi ((p3 - (1 : Int32)) >>> ((6 : Int32) &&& 31)), vl ((-1 : Int64) <<< (p2 &&& 0x3f).toInt64), ss, vl (((-1 : Int64).toUInt64 >>> ((-p3) &&& 0x3f).toInt64.toUInt64).toInt64), ss, vi (((p2 >>> ((6 : Int32) &&& 31)) + (1 : Int32)) + (1 : Int32))] [(.ref o0)])) rfl (by rw [hml]; rfl) (Steps.refl _) (a := o0) (by rw [e26]; exact qa30) qb30 (argsL := []) (rest := []) (lenOf pd_7 rfl) rfl (by show 2 * 0 + _ ≤ _; exact Nat.le_of_eq rfl) (hb hby d20_155) (fun _ _ => ⟨rfl, e26, (by decide : 0 + 0 ≤ _), (by decide : 0 + 0 ≤ _)⟩)
            dsimp only [Pt.U, Pt.locs, Pt.cells, Pt.slots] at X30 l30 y30 z30 st30 hQ30
            subst l30 y30 z30
            obtain ⟨u_30, rfl, Nq30, Kc30, P0_30, P1_30, P2_30, np0_30⟩ := hQ30
            have N30 := Fr.app N26 Nq30
            have O30 := O26.keep Kc30 (allS g_o0 all0)
            have K30 : Keep h0 T30.heap [o0, o1] := K26.trans Kc30 (allS (Or.inl (List.mem_of_getElem? (i := 0) rfl)) all0)
            obtain ⟨cq31, qa31, qb31⟩ := P0_30.cell
            obtain ⟨_, _, ⟨T31, L31, k31, n31⟩, -, X31, ⟨Lc31, hQ31, l31, y31, z31⟩, st31⟩ := X30.privateBack hx (y := My12) hown (mvT hZ (ww hw 89 rfl)) (mvT hZ (ww hw 90 rfl)) (own_selp (by decide) (mvT hZ (ww hw 54 rfl)) (mvP hZ (ww hw 91 rfl)) (mvT hZ (ww hw 90 rfl))) (Cond.privateMethod_at (mvP hZ (ww hw 91 rfl) (args := #[]))) (mvT hZ (ww hw 93 rfl)) (by decide) (backOf (W := 0) (rm12_0 l Z a0 hw []  o0 o1 u_30 p0 T30.heap n0 O30 S) hZ (ww hw 93 rfl) (ww hw 55 rfl) (by decide) (by decide)) (g := (mkF m 159 #[va o0, vi p2, vi p3, vi (p2 >>> ((6 : Int32) &&& 31)), vi ((p3 - (1 : Int32)) >>> ((6 : Int32) &&& 31)), vl ((-1 : Int64) <<< (p2 &&& 0x3f).toInt64), ss, vl (((-1 : Int64).toUInt64 >>> ((-p3) &&& 0x3f).toInt64.toUInt64).toInt64), ss, vi (((p2 >>> ((6 : Int32) &&& 31)) + (1 : Int32)) + (1 : Int32))] [(.ref o0)])) rfl (by rw [hml]; rfl) (Steps.refl _) (a := o0) qa31 qb31 (argsL := []) (rest := []) (lenOf pd_7 rfl) rfl (by show 2 * 0 + _ ≤ _; exact Nat.le_of_eq rfl) (hb hby d20_159) (fun _ _ => ⟨rfl, rfl, (by decide : 0 + 0 ≤ _), (by decide : 0 + 0 ≤ _)⟩)
            dsimp only [Pt.U, Pt.locs, Pt.cells, Pt.slots] at X31 l31 y31 z31 st31 hQ31
            subst l31 y31 z31
            obtain ⟨rfl, Nq31, e31⟩ := hQ31
            have N31 := Fr.app N30 Nq31
            obtain ⟨fs, hr, hrun, hended, hW, hsame⟩ := X31.leave (v := none) (fun _ => rfl) hlk
            have fc32 := (V26.keep Kc30 (ninS (Ne.symm ne_o0_o1) nin0))
            refine ⟨_, _, pre_22 _ ?_, hrun, hended, _, _, rfl, ?_, ⟨_, rfl⟩, hW, hsame.mono (by decide) (by decide)⟩
            · show Steps p.tables e below (T20.setTop (mkF m 121 #[va o0, vi p2, vi p3, vi (p2 >>> ((6 : Int32) &&& 31)), vi ((p3 - (1 : Int32)) >>> ((6 : Int32) &&& 31)), vl ((-1 : Int64) <<< (p2 &&& 0x3f).toInt64), ss, vl (((-1 : Int64).toUInt64 >>> ((-p3) &&& 0x3f).toInt64.toUInt64).toInt64), ss, vi (((p2 >>> ((6 : Int32) &&& 31)) + (1 : Int32)) + (1 : Int32))] [(.int ((p3 - (1 : Int32)) >>> ((6 : Int32) &&& 31))), (.int (((p2 >>> ((6 : Int32) &&& 31)) + (1 : Int32)) + (1 : Int32)))])) _
              refine XS.icmpYes X20.here hx rfl (pc0 := 121) (pc' := 138) rfl (hb hby d20_121) rfl (flt hc21).2.1 (by decide) (by decide) ?_
              refine XS.aloadN X20.here hx rfl (hb hby d20_138) rfl rfl ?_
              refine st24 _ ?_
              refine XS.iload X24.here hx rfl (hb hby d20_142) rfl ?_
              refine Jvm.Free.XT.dup2 X24.here hx rfl (hb hby d20_144) rfl rfl rfl ?_
              refine st25 _ ?_
              refine XS.lload X24.here hx rfl (hb hby d20_146) rfl ?_
              refine X24.ldc2Long hx hown (mvT hZ (ww hw 122 rfl)) (g := (mkF m 148 #[va o0, vi p2, vi p3, vi (p2 >>> ((6 : Int32) &&& 31)), vi ((p3 - (1 : Int32)) >>> ((6 : Int32) &&& 31)), vl ((-1 : Int64) <<< (p2 &&& 0x3f).toInt64), ss, vl (((-1 : Int64).toUInt64 >>> ((-p3) &&& 0x3f).toInt64.toUInt64).toInt64), ss, vi (((p2 >>> ((6 : Int32) &&& 31)) + (1 : Int32)) + (1 : Int32))] [(.long (((-1 : Int64).toUInt64 >>> ((-p3) &&& 0x3f).toInt64.toUInt64).toInt64)), (.long x25), (.int ((p3 - (1 : Int32)) >>> ((6 : Int32) &&& 31))), (.ref o1)])) rfl (hb hby d20_148) _ ?_
              show Steps p.tables e below (T24.setTop (mkF m 151 #[va o0, vi p2, vi p3, vi (p2 >>> ((6 : Int32) &&& 31)), vi ((p3 - (1 : Int32)) >>> ((6 : Int32) &&& 31)), vl ((-1 : Int64) <<< (p2 &&& 0x3f).toInt64), ss, vl (((-1 : Int64).toUInt64 >>> ((-p3) &&& 0x3f).toInt64.toUInt64).toInt64), ss, vi (((p2 >>> ((6 : Int32) &&& 31)) + (1 : Int32)) + (1 : Int32))] [(.long (-1)), (.long (((-1 : Int64).toUInt64 >>> ((-p3) &&& 0x3f).toInt64.toUInt64).toInt64)), (.long x25), (.int ((p3 - (1 : Int32)) >>> ((6 : Int32) &&& 31))), (.ref o1)])) _
              refine XS.lxor X24.here hx rfl (hb hby d20_151) rfl ?_
              refine XS.land X24.here hx rfl (hb hby d20_152) rfl ?_
              refine st26 _ ?_
              refine XS.aloadN X26.here hx rfl (hb hby d20_154) rfl rfl ?_
              refine st30.trans ?_
              refine XS.aloadN X30.here hx rfl (hb hby d20_158) rfl rfl ?_
              refine st31.trans ?_
              exact X31.returnOut hx hrt (hb hby d20_162) hr
            · show Q20_0 Z  o0 o1 p1 p0 p2 p3 h0 n0 none T31.heap _
              rw [e31]; exact ⟨u_30, rfl, N31, K30, P0_30, P1_30, P2_30, fc32, np0_30⟩
        · have fc18 := (F_words_o0.other W15 (Or.inl ne_o0_o1))
          obtain ⟨T19, X19, e19, st19⟩ := getF X15 hx hZ hown (host := "") (Or.inl (ww hw 73 rfl)) Via.refl e15 fc18 (g := (mkF m 139 #[va o0, vi p2, vi p3, vi (p2 >>> ((6 : Int32) &&& 31)), vi ((p3 - (1 : Int32)) >>> ((6 : Int32) &&& 31)), vl ((-1 : Int64) <<< (p2 &&& 0x3f).toInt64), ss, vl (((-1 : Int64).toUInt64 >>> ((-p3) &&& 0x3f).toInt64.toUInt64).toInt64), ss, vi ((p2 >>> ((6 : Int32) &&& 31)) + (1 : Int32))] [(.ref o0)])) rfl rfl (hb hby d20_139)
          obtain ⟨x20, st20⟩ := own_laload X19 hx hZ e19 V15 (own_clie hs he hU) (g := (mkF m 145 #[va o0, vi p2, vi p3, vi (p2 >>> ((6 : Int32) &&& 31)), vi ((p3 - (1 : Int32)) >>> ((6 : Int32) &&& 31)), vl ((-1 : Int64) <<< (p2 &&& 0x3f).toInt64), ss, vl (((-1 : Int64).toUInt64 >>> ((-p3) &&& 0x3f).toInt64.toUInt64).toInt64), ss, vi ((p2 >>> ((6 : Int32) &&& 31)) + (1 : Int32))] [(.int ((p3 - (1 : Int32)) >>> ((6 : Int32) &&& 31))), (.ref o1), (.int ((p3 - (1 : Int32)) >>> ((6 : Int32) &&& 31))), (.ref o1)])) rfl rfl (hb hby d20_145)
          obtain ⟨T21, h21, X21, e21, W21, V21, st21⟩ := own_lastore X19 hx hZ e19 V15 (own_clie hs he hU) (g := (mkF m 153 #[va o0, vi p2, vi p3, vi (p2 >>> ((6 : Int32) &&& 31)), vi ((p3 - (1 : Int32)) >>> ((6 : Int32) &&& 31)), vl ((-1 : Int64) <<< (p2 &&& 0x3f).toInt64), ss, vl (((-1 : Int64).toUInt64 >>> ((-p3) &&& 0x3f).toInt64.toUInt64).toInt64), ss, vi ((p2 >>> ((6 : Int32) &&& 31)) + (1 : Int32))] [(.long (x20 &&& ((((-1 : Int64).toUInt64 >>> ((-p3) &&& 0x3f).toInt64.toUInt64).toInt64) ^^^ (-1 : Int64)))), (.int ((p3 - (1 : Int32)) >>> ((6 : Int32) &&& 31))), (.ref o1)])) rfl rfl (hb hby d20_153)
          have O21 := O15.wr W21 g_o1
          have K21 : Keep h0 h21 [o0, o1] := K15.wr W21 (Or.inl (List.mem_of_getElem? (i := 1) rfl))
          have N21 := Fr.snoc X21 N15 g_o1
          have fc22 := ((E_o0.wr W15).wr W21)
          have fc23 := (fc18.other W21 (Or.inl ne_o0_o1))
          have fc24 := ((F_wordsInUse_o0.other W15 (Or.inl ne_o0_o1)).other W21 (Or.inl ne_o0_o1))
          obtain ⟨cq25, qa25, qb25⟩ := fc22.cell
          obtain ⟨_, _, ⟨T25, L25, k25, n25⟩, -, X25, ⟨Lc25, hQ25, l25, y25, z25⟩, st25⟩ := X21.privateBack hx (y := My22) hown (mvT hZ (ww hw 140 rfl)) (mvT hZ (ww hw 141 rfl)) (own_selp (by decide) (mvT hZ (ww hw 54 rfl)) (mvP hZ (ww hw 142 rfl)) (mvT hZ (ww hw 141 rfl))) (Cond.privateMethod_at (mvP hZ (ww hw 142 rfl) (args := #[]))) (mvT hZ (ww hw 144 rfl)) (by decide) (backOf (W := 0) (rm22_0 l Z a0 hw []  o0 o1 p1 p0 h21 n0 O21 S fc22 fc23 fc24 V21 g_o0 hU hN) hZ (ww hw 144 rfl) (ww hw 55 rfl) (by decide) (by decide)) (g := (mkF m 155 #[va o0, vi p2, vi p3, vi (p2 >>> ((6 : Int32) &&& 31)), vi ((p3 - (1 : Int32)) >>> ((6 : Int32) &&& 31)), vl ((-1 : Int64) <<< (p2 &&& 0x3f).toInt64), ss, vl (((-1 : Int64).toUInt64 >>> ((-p3) &&& 0x3f).toInt64.toUInt64).toInt64), ss, vi ((p2 >>> ((6 : Int32) &&& 31)) + (1 : Int32))] [(.ref o0)])) rfl (by rw [hml]; rfl) (Steps.refl _) (a := o0) (by rw [e21]; exact qa25) qb25 (argsL := []) (rest := []) (lenOf pd_7 rfl) rfl (by show 2 * 0 + _ ≤ _; exact Nat.le_of_eq rfl) (hb hby d20_155) (fun _ _ => ⟨rfl, e21, (by decide : 0 + 0 ≤ _), (by decide : 0 + 0 ≤ _)⟩)
          dsimp only [Pt.U, Pt.locs, Pt.cells, Pt.slots] at X25 l25 y25 z25 st25 hQ25
          subst l25 y25 z25
          obtain ⟨u_25, rfl, Nq25, Kc25, P0_25, P1_25, P2_25, np0_25⟩ := hQ25
          have N25 := Fr.app N21 Nq25
          have O25 := O21.keep Kc25 (allS g_o0 all0)
          have K25 : Keep h0 T25.heap [o0, o1] := K21.trans Kc25 (allS (Or.inl (List.mem_of_getElem? (i := 0) rfl)) all0)
          obtain ⟨cq26, qa26, qb26⟩ := P0_25.cell
          obtain ⟨_, _, ⟨T26, L26, k26, n26⟩, -, X26, ⟨Lc26, hQ26, l26, y26, z26⟩, st26⟩ := X25.privateBack hx (y := My12) hown (mvT hZ (ww hw 89 rfl)) (mvT hZ (ww hw 90 rfl)) (own_selp (by decide) (mvT hZ (ww hw 54 rfl)) (mvP hZ (ww hw 91 rfl)) (mvT hZ (ww hw 90 rfl))) (Cond.privateMethod_at (mvP hZ (ww hw 91 rfl) (args := #[]))) (mvT hZ (ww hw 93 rfl)) (by decide) (backOf (W := 0) (rm12_0 l Z a0 hw []  o0 o1 u_25 p0 T25.heap n0 O25 S) hZ (ww hw 93 rfl) (ww hw 55 rfl) (by decide) (by decide)) (g := (mkF m 159 #[va o0, vi p2, vi p3, vi (p2 >>> ((6 : Int32) &&& 31)), vi ((p3 - (1 : Int32)) >>> ((6 : Int32) &&& 31)), vl ((-1 : Int64) <<< (p2 &&& 0x3f).toInt64), ss, vl (((-1 : Int64).toUInt64 >>> ((-p3) &&& 0x3f).toInt64.toUInt64).toInt64), ss, vi ((p2 >>> ((6 : Int32) &&& 31)) + (1 : Int32))] [(.ref o0)])) rfl (by rw [hml]; rfl) (Steps.refl _) (a := o0) qa26 qb26 (argsL := []) (rest := []) (lenOf pd_7 rfl) rfl (by show 2 * 0 + _ ≤ _; exact Nat.le_of_eq rfl) (hb hby d20_159) (fun _ _ => ⟨rfl, rfl, (by decide : 0 + 0 ≤ _), (by decide : 0 + 0 ≤ _)⟩)
          dsimp only [Pt.U, Pt.locs, Pt.cells, Pt.slots] at X26 l26 y26 z26 st26 hQ26
          subst l26 y26 z26
          obtain ⟨rfl, Nq26, e26⟩ := hQ26
          have N26 := Fr.app N25 Nq26
          obtain ⟨fs, hr, hrun, hended, hW, hsame⟩ := X26.leave (v := none) (fun _ => rfl) hlk
          have fc27 := (V21.keep Kc25 (ninS (Ne.symm ne_o0_o1) nin0))
          refine ⟨_, _, pre_17 _ ?_, hrun, hended, _, _, rfl, ?_, ⟨_, rfl⟩, hW, hsame.mono (by decide) (by decide)⟩
          · show Steps p.tables e below (T15.setTop (mkF m 121 #[va o0, vi p2, vi p3, vi (p2 >>> ((6 : Int32) &&& 31)), vi ((p3 - (1 : Int32)) >>> ((6 : Int32) &&& 31)), vl ((-1 : Int64) <<< (p2 &&& 0x3f).toInt64), ss, vl (((-1 : Int64).toUInt64 >>> ((-p3) &&& 0x3f).toInt64.toUInt64).toInt64), ss, vi ((p2 >>> ((6 : Int32) &&& 31)) + (1 : Int32))] [(.int ((p3 - (1 : Int32)) >>> ((6 : Int32) &&& 31))), (.int ((p2 >>> ((6 : Int32) &&& 31)) + (1 : Int32)))])) _
            refine XS.icmpYes X15.here hx rfl (pc0 := 121) (pc' := 138) rfl (hb hby d20_121) rfl (flt hc16).2.1 (by decide) (by decide) ?_
            refine XS.aloadN X15.here hx rfl (hb hby d20_138) rfl rfl ?_
            refine st19 _ ?_
            refine XS.iload X19.here hx rfl (hb hby d20_142) rfl ?_
            refine Jvm.Free.XT.dup2 X19.here hx rfl (hb hby d20_144) rfl rfl rfl ?_
            refine st20 _ ?_
            refine XS.lload X19.here hx rfl (hb hby d20_146) rfl ?_
            refine X19.ldc2Long hx hown (mvT hZ (ww hw 122 rfl)) (g := (mkF m 148 #[va o0, vi p2, vi p3, vi (p2 >>> ((6 : Int32) &&& 31)), vi ((p3 - (1 : Int32)) >>> ((6 : Int32) &&& 31)), vl ((-1 : Int64) <<< (p2 &&& 0x3f).toInt64), ss, vl (((-1 : Int64).toUInt64 >>> ((-p3) &&& 0x3f).toInt64.toUInt64).toInt64), ss, vi ((p2 >>> ((6 : Int32) &&& 31)) + (1 : Int32))] [(.long (((-1 : Int64).toUInt64 >>> ((-p3) &&& 0x3f).toInt64.toUInt64).toInt64)), (.long x20), (.int ((p3 - (1 : Int32)) >>> ((6 : Int32) &&& 31))), (.ref o1)])) rfl (hb hby d20_148) _ ?_
            show Steps p.tables e below (T19.setTop (mkF m 151 #[va o0, vi p2, vi p3, vi (p2 >>> ((6 : Int32) &&& 31)), vi ((p3 - (1 : Int32)) >>> ((6 : Int32) &&& 31)), vl ((-1 : Int64) <<< (p2 &&& 0x3f).toInt64), ss, vl (((-1 : Int64).toUInt64 >>> ((-p3) &&& 0x3f).toInt64.toUInt64).toInt64), ss, vi ((p2 >>> ((6 : Int32) &&& 31)) + (1 : Int32))] [(.long (-1)), (.long (((-1 : Int64).toUInt64 >>> ((-p3) &&& 0x3f).toInt64.toUInt64).toInt64)), (.long x20), (.int ((p3 - (1 : Int32)) >>> ((6 : Int32) &&& 31))), (.ref o1)])) _
            refine XS.lxor X19.here hx rfl (hb hby d20_151) rfl ?_
            refine XS.land X19.here hx rfl (hb hby d20_152) rfl ?_
            refine st21 _ ?_
            refine XS.aloadN X21.here hx rfl (hb hby d20_154) rfl rfl ?_
            refine st25.trans ?_
            refine XS.aloadN X25.here hx rfl (hb hby d20_158) rfl rfl ?_
            refine st26.trans ?_
            exact X26.returnOut hx hrt (hb hby d20_162) hr
          · show Q20_0 Z  o0 o1 p1 p0 p2 p3 h0 n0 none T26.heap _
            rw [e26]; exact ⟨u_25, rfl, N26, K25, P0_25, P1_25, P2_25, fc27, np0_25⟩
    · have he := own_cleu hs hU hN
      obtain ⟨cq11, kq11, q11a, q11b, q11c⟩ := isOf hZ e8 E_o0
      obtain ⟨_, _, ⟨T11, L11, k11, n11⟩, -, X11, ⟨Lc11, hQ11, l11, y11, z11⟩, st11⟩ := X8.virtualBack hx (y := (⟨sC1, "length", "()I"⟩ : MethodName)) (z := (⟨sC1, "length", "()I"⟩ : MethodName)) hown (mvT hZ (ww hw 146 rfl)) (mvT hZ (ww hw 147 rfl)) (notFace_of_selects (args := #[]) (mvT hZ (ww hw 149 rfl))) (mvT hZ (ww hw 149 rfl)) (mvT hZ (ww hw 148 rfl)) (by decide) (backOf (W := 0) (rm23_0 l Z a0 hw []  o0 o1 p1 p0 h0 n0 O0 S F_words_o0 F_wordsInUse_o0 V_o1 hU (own_clz hs)) hZ (ww hw 150 rfl) (ww hw 55 rfl) (by decide) (by decide)) q11a q11c (g := (mkF m 43 #[va o0, vi p2, vi p3, vi (p2 >>> ((6 : Int32) &&& 31)), vi ((p3 - (1 : Int32)) >>> ((6 : Int32) &&& 31)), uu, uu, uu, uu, uu] [(.ref o0)])) rfl (by rw [hml]; rfl) (Steps.refl _) (argsL := []) (rest := []) (lenOf pd_10 rfl) rfl (by show 2 * 0 + _ ≤ _; exact Nat.le_of_eq rfl) (hb hby d20_43) (fun _ _ => ⟨rfl, e8, (by decide : 0 + 0 ≤ _), (by decide : 0 + 0 ≤ _)⟩)
      dsimp only [Pt.U, Pt.locs, Pt.cells, Pt.slots] at X11 l11 y11 z11 st11 hQ11
      subst l11 y11 z11
      obtain ⟨r_11, rfl, Nq11, e11⟩ := hQ11
      have N11 := Fr.app N7 Nq11
      obtain ⟨T12, X12, e12, st12⟩ := getF X11 hx hZ hown (host := "") (Or.inl (ww hw 60 rfl)) Via.refl e11 F_wordsInUse_o0 (g := (mkF m 48 #[va o0, vi p2, vi r_11, vi (p2 >>> ((6 : Int32) &&& 31)), vi ((p3 - (1 : Int32)) >>> ((6 : Int32) &&& 31)), uu, uu, uu, uu, uu] [(.ref o0)])) rfl rfl (hb hby d20_48)
      have pre_14 : ∀ t, Steps p.tables e below (T12.setTop (mkF m 73 #[va o0, vi p2, vi r_11, vi (p2 >>> ((6 : Int32) &&& 31)), vi (p1 - (1 : Int32)), vl ((-1 : Int64) <<< (p2 &&& 0x3f).toInt64), ss, vl (((-1 : Int64).toUInt64 >>> ((-r_11) &&& 0x3f).toInt64.toUInt64).toInt64), ss, uu] [(.int (p1 - (1 : Int32))), (.int (p2 >>> ((6 : Int32) &&& 31)))])) t → Steps p.tables e below (s₁.setTop (mkF m 0 #[va o0, vi p2, vi p3, uu, uu, uu, uu, uu, uu, uu] [])) t := fun t k => pre_10 t (by
        show Steps p.tables e below (T8.setTop (mkF m 39 #[va o0, vi p2, vi p3, vi (p2 >>> ((6 : Int32) &&& 31)), vi ((p3 - (1 : Int32)) >>> ((6 : Int32) &&& 31)), uu, uu, uu, uu, uu] [(.int p1), (.int ((p3 - (1 : Int32)) >>> ((6 : Int32) &&& 31)))])) _
        refine XS.icmpNo X8.here hx rfl (hb hby d20_39) rfl (flt hc9).1 ?_
        refine XS.aloadN X8.here hx rfl (hb hby d20_42) rfl rfl ?_
        refine st11.trans ?_
        refine XS.istoreN X11.here hx rfl (hb hby d20_46) rfl (l' := #[va o0, vi p2, vi r_11, vi (p2 >>> ((6 : Int32) &&& 31)), vi ((p3 - (1 : Int32)) >>> ((6 : Int32) &&& 31)), uu, uu, uu, uu, uu]) rfl ?_
        refine XS.aloadN X11.here hx rfl (hb hby d20_47) rfl rfl ?_
        refine st12 _ ?_
        refine XS.iconst X12.here hx rfl (hb hby d20_51) ?_
        refine XS.isub X12.here hx rfl (hb hby d20_52) rfl ?_
        show Steps p.tables e below (T12.setTop (mkF m 53 #[va o0, vi p2, vi r_11, vi (p2 >>> ((6 : Int32) &&& 31)), vi ((p3 - (1 : Int32)) >>> ((6 : Int32) &&& 31)), uu, uu, uu, uu, uu] [(.int (p1 - (1 : Int32)))])) _
        refine XS.istore X12.here hx rfl (hb hby d20_53) rfl (l' := #[va o0, vi p2, vi r_11, vi (p2 >>> ((6 : Int32) &&& 31)), vi (p1 - (1 : Int32)), uu, uu, uu, uu, uu]) rfl ?_
        refine X12.ldc2Long hx hown (mvT hZ (ww hw 122 rfl)) (g := (mkF m 55 #[va o0, vi p2, vi r_11, vi (p2 >>> ((6 : Int32) &&& 31)), vi (p1 - (1 : Int32)), uu, uu, uu, uu, uu] [])) rfl (hb hby d20_55) _ ?_
        refine XS.iloadN X12.here hx rfl (hb hby d20_58) rfl ?_
        refine XS.lshl X12.here hx rfl (hb hby d20_59) rfl ?_
        refine XS.lstore X12.here hx rfl (hb hby d20_60) rfl (l' := #[va o0, vi p2, vi r_11, vi (p2 >>> ((6 : Int32) &&& 31)), vi (p1 - (1 : Int32)), vl ((-1 : Int64) <<< (p2 &&& 0x3f).toInt64), ss, uu, uu, uu]) rfl ?_
        refine X12.ldc2Long hx hown (mvT hZ (ww hw 122 rfl)) (g := (mkF m 62 #[va o0, vi p2, vi r_11, vi (p2 >>> ((6 : Int32) &&& 31)), vi (p1 - (1 : Int32)), vl ((-1 : Int64) <<< (p2 &&& 0x3f).toInt64), ss, uu, uu, uu] [])) rfl (hb hby d20_62) _ ?_
        refine XS.iloadN X12.here hx rfl (hb hby d20_65) rfl ?_
        refine XS.ineg X12.here hx rfl (hb hby d20_66) rfl ?_
        show Steps p.tables e below (T12.setTop (mkF m 67 #[va o0, vi p2, vi r_11, vi (p2 >>> ((6 : Int32) &&& 31)), vi (p1 - (1 : Int32)), vl ((-1 : Int64) <<< (p2 &&& 0x3f).toInt64), ss, uu, uu, uu] [(.int (-r_11)), (.long (-1))])) _
        refine XS.lushr X12.here hx rfl (hb hby d20_67) rfl ?_
        refine XS.lstore X12.here hx rfl (hb hby d20_68) rfl (l' := #[va o0, vi p2, vi r_11, vi (p2 >>> ((6 : Int32) &&& 31)), vi (p1 - (1 : Int32)), vl ((-1 : Int64) <<< (p2 &&& 0x3f).toInt64), ss, vl (((-1 : Int64).toUInt64 >>> ((-r_11) &&& 0x3f).toInt64.toUInt64).toInt64), ss, uu]) rfl ?_
        refine XS.iloadN X12.here hx rfl (hb hby d20_70) rfl ?_
        refine XS.iload X12.here hx rfl (hb hby d20_71) rfl ?_
        exact k)
      by_cases hc13 : (p2 >>> ((6 : Int32) &&& 31)) = (p1 - (1 : Int32))
      · obtain ⟨T15, X15, e15, st15⟩ := getF X12 hx hZ hown (host := "") (Or.inl (ww hw 73 rfl)) Via.refl e12 F_words_o0 (g := (mkF m 77 #[va o0, vi p2, vi r_11, vi (p2 >>> ((6 : Int32) &&& 31)), vi (p1 - (1 : Int32)), vl ((-1 : Int64) <<< (p2 &&& 0x3f).toInt64), ss, vl (((-1 : Int64).toUInt64 >>> ((-r_11) &&& 0x3f).toInt64.toUInt64).toInt64), ss, uu] [(.ref o0)])) rfl rfl (hb hby d20_77)
        obtain ⟨x16, st16⟩ := own_laload X15 hx hZ e15 V_o1 (own_clis hs hU) (g := (mkF m 82 #[va o0, vi p2, vi r_11, vi (p2 >>> ((6 : Int32) &&& 31)), vi (p1 - (1 : Int32)), vl ((-1 : Int64) <<< (p2 &&& 0x3f).toInt64), ss, vl (((-1 : Int64).toUInt64 >>> ((-r_11) &&& 0x3f).toInt64.toUInt64).toInt64), ss, uu] [(.int (p2 >>> ((6 : Int32) &&& 31))), (.ref o1), (.int (p2 >>> ((6 : Int32) &&& 31))), (.ref o1)])) rfl rfl (hb hby d20_82)
        obtain ⟨T17, h17, X17, e17, W17, V17, st17⟩ := own_lastore X15 hx hZ e15 V_o1 (own_clis hs hU) (g := (mkF m 93 #[va o0, vi p2, vi r_11, vi (p2 >>> ((6 : Int32) &&& 31)), vi (p1 - (1 : Int32)), vl ((-1 : Int64) <<< (p2 &&& 0x3f).toInt64), ss, vl (((-1 : Int64).toUInt64 >>> ((-r_11) &&& 0x3f).toInt64.toUInt64).toInt64), ss, uu] [(.long (x16 &&& ((((-1 : Int64) <<< (p2 &&& 0x3f).toInt64) &&& (((-1 : Int64).toUInt64 >>> ((-r_11) &&& 0x3f).toInt64.toUInt64).toInt64)) ^^^ (-1 : Int64)))), (.int (p2 >>> ((6 : Int32) &&& 31))), (.ref o1)])) rfl rfl (hb hby d20_93)
        have O17 := O0.wr W17 g_o1
        have K17 : Keep h0 h17 [o0, o1] := K0.wr W17 (Or.inl (List.mem_of_getElem? (i := 1) rfl))
        have N17 := Fr.snoc X17 N11 g_o1
        have fc18 := (E_o0.wr W17)
        have fc19 := (F_words_o0.other W17 (Or.inl ne_o0_o1))
        have fc20 := (F_wordsInUse_o0.other W17 (Or.inl ne_o0_o1))
        obtain ⟨cq21, qa21, qb21⟩ := fc18.cell
        obtain ⟨_, _, ⟨T21, L21, k21, n21⟩, -, X21, ⟨Lc21, hQ21, l21, y21, z21⟩, st21⟩ := X17.privateBack hx (y := My22) hown (mvT hZ (ww hw 140 rfl)) (mvT hZ (ww hw 141 rfl)) (own_selp (by decide) (mvT hZ (ww hw 54 rfl)) (mvP hZ (ww hw 142 rfl)) (mvT hZ (ww hw 141 rfl))) (Cond.privateMethod_at (mvP hZ (ww hw 142 rfl) (args := #[]))) (mvT hZ (ww hw 144 rfl)) (by decide) (backOf (W := 0) (rm22_0 l Z a0 hw []  o0 o1 p1 p0 h17 n0 O17 S fc18 fc19 fc20 V17 g_o0 hU hN) hZ (ww hw 144 rfl) (ww hw 55 rfl) (by decide) (by decide)) (g := (mkF m 155 #[va o0, vi p2, vi r_11, vi (p2 >>> ((6 : Int32) &&& 31)), vi (p1 - (1 : Int32)), vl ((-1 : Int64) <<< (p2 &&& 0x3f).toInt64), ss, vl (((-1 : Int64).toUInt64 >>> ((-r_11) &&& 0x3f).toInt64.toUInt64).toInt64), ss, uu] [(.ref o0)])) rfl (by rw [hml]; rfl) (Steps.refl _) (a := o0) (by rw [e17]; exact qa21) qb21 (argsL := []) (rest := []) (lenOf pd_7 rfl) rfl (by show 2 * 0 + _ ≤ _; exact Nat.le_of_eq rfl) (hb hby d20_155) (fun _ _ => ⟨rfl, e17, (by decide : 0 + 0 ≤ _), (by decide : 0 + 0 ≤ _)⟩)
        dsimp only [Pt.U, Pt.locs, Pt.cells, Pt.slots] at X21 l21 y21 z21 st21 hQ21
        subst l21 y21 z21
        obtain ⟨u_21, rfl, Nq21, Kc21, P0_21, P1_21, P2_21, np0_21⟩ := hQ21
        have N21 := Fr.app N17 Nq21
        have O21 := O17.keep Kc21 (allS g_o0 all0)
        have K21 : Keep h0 T21.heap [o0, o1] := K17.trans Kc21 (allS (Or.inl (List.mem_of_getElem? (i := 0) rfl)) all0)
        obtain ⟨cq22, qa22, qb22⟩ := P0_21.cell
        obtain ⟨_, _, ⟨T22, L22, k22, n22⟩, -, X22, ⟨Lc22, hQ22, l22, y22, z22⟩, st22⟩ := X21.privateBack hx (y := My12) hown (mvT hZ (ww hw 89 rfl)) (mvT hZ (ww hw 90 rfl)) (own_selp (by decide) (mvT hZ (ww hw 54 rfl)) (mvP hZ (ww hw 91 rfl)) (mvT hZ (ww hw 90 rfl))) (Cond.privateMethod_at (mvP hZ (ww hw 91 rfl) (args := #[]))) (mvT hZ (ww hw 93 rfl)) (by decide) (backOf (W := 0) (rm12_0 l Z a0 hw []  o0 o1 u_21 p0 T21.heap n0 O21 S) hZ (ww hw 93 rfl) (ww hw 55 rfl) (by decide) (by decide)) (g := (mkF m 159 #[va o0, vi p2, vi r_11, vi (p2 >>> ((6 : Int32) &&& 31)), vi (p1 - (1 : Int32)), vl ((-1 : Int64) <<< (p2 &&& 0x3f).toInt64), ss, vl (((-1 : Int64).toUInt64 >>> ((-r_11) &&& 0x3f).toInt64.toUInt64).toInt64), ss, uu] [(.ref o0)])) rfl (by rw [hml]; rfl) (Steps.refl _) (a := o0) qa22 qb22 (argsL := []) (rest := []) (lenOf pd_7 rfl) rfl (by show 2 * 0 + _ ≤ _; exact Nat.le_of_eq rfl) (hb hby d20_159) (fun _ _ => ⟨rfl, rfl, (by decide : 0 + 0 ≤ _), (by decide : 0 + 0 ≤ _)⟩)
        dsimp only [Pt.U, Pt.locs, Pt.cells, Pt.slots] at X22 l22 y22 z22 st22 hQ22
        subst l22 y22 z22
        obtain ⟨rfl, Nq22, e22⟩ := hQ22
        have N22 := Fr.app N21 Nq22
        obtain ⟨fs, hr, hrun, hended, hW, hsame⟩ := X22.leave (v := none) (fun _ => rfl) hlk
        have fc23 := (V17.keep Kc21 (ninS (Ne.symm ne_o0_o1) nin0))
        refine ⟨_, _, pre_14 _ ?_, hrun, hended, _, _, rfl, ?_, ⟨_, rfl⟩, hW, hsame.mono (by decide) (by decide)⟩
        · show Steps p.tables e below (T12.setTop (mkF m 73 #[va o0, vi p2, vi r_11, vi (p2 >>> ((6 : Int32) &&& 31)), vi (p1 - (1 : Int32)), vl ((-1 : Int64) <<< (p2 &&& 0x3f).toInt64), ss, vl (((-1 : Int64).toUInt64 >>> ((-r_11) &&& 0x3f).toInt64.toUInt64).toInt64), ss, uu] [(.int (p1 - (1 : Int32))), (.int (p2 >>> ((6 : Int32) &&& 31)))])) _
          refine XS.icmpNo X12.here hx rfl (hb hby d20_73) rfl (teq hc13).2 ?_
          refine XS.aloadN X12.here hx rfl (hb hby d20_76) rfl rfl ?_
          refine st15 _ ?_
          refine XS.iloadN X15.here hx rfl (hb hby d20_80) rfl ?_
          refine Jvm.Free.XT.dup2 X15.here hx rfl (hb hby d20_81) rfl rfl rfl ?_
          refine st16 _ ?_
          refine XS.lload X15.here hx rfl (hb hby d20_83) rfl ?_
          refine XS.lload X15.here hx rfl (hb hby d20_85) rfl ?_
          show Steps p.tables e below (T15.setTop (mkF m 87 #[va o0, vi p2, vi r_11, vi (p2 >>> ((6 : Int32) &&& 31)), vi (p1 - (1 : Int32)), vl ((-1 : Int64) <<< (p2 &&& 0x3f).toInt64), ss, vl (((-1 : Int64).toUInt64 >>> ((-r_11) &&& 0x3f).toInt64.toUInt64).toInt64), ss, uu] [(.long (((-1 : Int64).toUInt64 >>> ((-r_11) &&& 0x3f).toInt64.toUInt64).toInt64)), (.long ((-1 : Int64) <<< (p2 &&& 0x3f).toInt64)), (.long x16), (.int (p2 >>> ((6 : Int32) &&& 31))), (.ref o1)])) _
          refine XS.land X15.here hx rfl (hb hby d20_87) rfl ?_
          refine X15.ldc2Long hx hown (mvT hZ (ww hw 122 rfl)) (g := (mkF m 88 #[va o0, vi p2, vi r_11, vi (p2 >>> ((6 : Int32) &&& 31)), vi (p1 - (1 : Int32)), vl ((-1 : Int64) <<< (p2 &&& 0x3f).toInt64), ss, vl (((-1 : Int64).toUInt64 >>> ((-r_11) &&& 0x3f).toInt64.toUInt64).toInt64), ss, uu] [(.long (((-1 : Int64) <<< (p2 &&& 0x3f).toInt64) &&& (((-1 : Int64).toUInt64 >>> ((-r_11) &&& 0x3f).toInt64.toUInt64).toInt64))), (.long x16), (.int (p2 >>> ((6 : Int32) &&& 31))), (.ref o1)])) rfl (hb hby d20_88) _ ?_
          refine XS.lxor X15.here hx rfl (hb hby d20_91) rfl ?_
          refine XS.land X15.here hx rfl (hb hby d20_92) rfl ?_
          refine st17 _ ?_
          refine XS.goto X17.here hx rfl (pc0 := 94) (pc' := 154) rfl (hb hby d20_94) (by decide) (by decide) ?_
          refine XS.aloadN X17.here hx rfl (hb hby d20_154) rfl rfl ?_
          refine st21.trans ?_
          show Steps p.tables e below (T21.setTop (mkF m 158 #[va o0, vi p2, vi r_11, vi (p2 >>> ((6 : Int32) &&& 31)), vi (p1 - (1 : Int32)), vl ((-1 : Int64) <<< (p2 &&& 0x3f).toInt64), ss, vl (((-1 : Int64).toUInt64 >>> ((-r_11) &&& 0x3f).toInt64.toUInt64).toInt64), ss, uu] [])) _
          refine XS.aloadN X21.here hx rfl (hb hby d20_158) rfl rfl ?_
          refine st22.trans ?_
          exact X22.returnOut hx hrt (hb hby d20_162) hr
        · show Q20_0 Z  o0 o1 p1 p0 p2 p3 h0 n0 none T22.heap _
          rw [e22]; exact ⟨u_21, rfl, N22, K21, P0_21, P1_21, P2_21, fc23, np0_21⟩
      · obtain ⟨T15, X15, e15, st15⟩ := getF X12 hx hZ hown (host := "") (Or.inl (ww hw 73 rfl)) Via.refl e12 F_words_o0 (g := (mkF m 98 #[va o0, vi p2, vi r_11, vi (p2 >>> ((6 : Int32) &&& 31)), vi (p1 - (1 : Int32)), vl ((-1 : Int64) <<< (p2 &&& 0x3f).toInt64), ss, vl (((-1 : Int64).toUInt64 >>> ((-r_11) &&& 0x3f).toInt64.toUInt64).toInt64), ss, uu] [(.ref o0)])) rfl rfl (hb hby d20_98)
        obtain ⟨x16, st16⟩ := own_laload X15 hx hZ e15 V_o1 (own_clis hs hU) (g := (mkF m 103 #[va o0, vi p2, vi r_11, vi (p2 >>> ((6 : Int32) &&& 31)), vi (p1 - (1 : Int32)), vl ((-1 : Int64) <<< (p2 &&& 0x3f).toInt64), ss, vl (((-1 : Int64).toUInt64 >>> ((-r_11) &&& 0x3f).toInt64.toUInt64).toInt64), ss, uu] [(.int (p2 >>> ((6 : Int32) &&& 31))), (.ref o1), (.int (p2 >>> ((6 : Int32) &&& 31))), (.ref o1)])) rfl rfl (hb hby d20_103)
        obtain ⟨T17, h17, X17, e17, W17, V17, st17⟩ := own_lastore X15 hx hZ e15 V_o1 (own_clis hs hU) (g := (mkF m 111 #[va o0, vi p2, vi r_11, vi (p2 >>> ((6 : Int32) &&& 31)), vi (p1 - (1 : Int32)), vl ((-1 : Int64) <<< (p2 &&& 0x3f).toInt64), ss, vl (((-1 : Int64).toUInt64 >>> ((-r_11) &&& 0x3f).toInt64.toUInt64).toInt64), ss, uu] [(.long (x16 &&& (((-1 : Int64) <<< (p2 &&& 0x3f).toInt64) ^^^ (-1 : Int64)))), (.int (p2 >>> ((6 : Int32) &&& 31))), (.ref o1)])) rfl rfl (hb hby d20_111)
        have O17 := O0.wr W17 g_o1
        have K17 : Keep h0 h17 [o0, o1] := K0.wr W17 (Or.inl (List.mem_of_getElem? (i := 1) rfl))
        have N17 := Fr.snoc X17 N11 g_o1
        have pre_19 : ∀ t, Steps p.tables e below (T17.setTop (mkF m 121 #[va o0, vi p2, vi r_11, vi (p2 >>> ((6 : Int32) &&& 31)), vi (p1 - (1 : Int32)), vl ((-1 : Int64) <<< (p2 &&& 0x3f).toInt64), ss, vl (((-1 : Int64).toUInt64 >>> ((-r_11) &&& 0x3f).toInt64.toUInt64).toInt64), ss, vi ((p2 >>> ((6 : Int32) &&& 31)) + (1 : Int32))] [(.int (p1 - (1 : Int32))), (.int ((p2 >>> ((6 : Int32) &&& 31)) + (1 : Int32)))])) t → Steps p.tables e below (s₁.setTop (mkF m 0 #[va o0, vi p2, vi p3, uu, uu, uu, uu, uu, uu, uu] [])) t := fun t k => pre_14 t (by
          show Steps p.tables e below (T12.setTop (mkF m 73 #[va o0, vi p2, vi r_11, vi (p2 >>> ((6 : Int32) &&& 31)), vi (p1 - (1 : Int32)), vl ((-1 : Int64) <<< (p2 &&& 0x3f).toInt64), ss, vl (((-1 : Int64).toUInt64 >>> ((-r_11) &&& 0x3f).toInt64.toUInt64).toInt64), ss, uu] [(.int (p1 - (1 : Int32))), (.int (p2 >>> ((6 : Int32) &&& 31)))])) _
          refine XS.icmpYes X12.here hx rfl (pc0 := 73) (pc' := 97) rfl (hb hby d20_73) rfl (feq hc13).2 (by decide) (by decide) ?_
          refine XS.aloadN X12.here hx rfl (hb hby d20_97) rfl rfl ?_
          refine st15 _ ?_
          refine XS.iloadN X15.here hx rfl (hb hby d20_101) rfl ?_
          refine Jvm.Free.XT.dup2 X15.here hx rfl (hb hby d20_102) rfl rfl rfl ?_
          refine st16 _ ?_
          refine XS.lload X15.here hx rfl (hb hby d20_104) rfl ?_
          refine X15.ldc2Long hx hown (mvT hZ (ww hw 122 rfl)) (g := (mkF m 106 #[va o0, vi p2, vi r_11, vi (p2 >>> ((6 : Int32) &&& 31)), vi (p1 - (1 : Int32)), vl ((-1 : Int64) <<< (p2 &&& 0x3f).toInt64), ss, vl (((-1 : Int64).toUInt64 >>> ((-r_11) &&& 0x3f).toInt64.toUInt64).toInt64), ss, uu] [(.long ((-1 : Int64) <<< (p2 &&& 0x3f).toInt64)), (.long x16), (.int (p2 >>> ((6 : Int32) &&& 31))), (.ref o1)])) rfl (hb hby d20_106) _ ?_
          show Steps p.tables e below (T15.setTop (mkF m 109 #[va o0, vi p2, vi r_11, vi (p2 >>> ((6 : Int32) &&& 31)), vi (p1 - (1 : Int32)), vl ((-1 : Int64) <<< (p2 &&& 0x3f).toInt64), ss, vl (((-1 : Int64).toUInt64 >>> ((-r_11) &&& 0x3f).toInt64.toUInt64).toInt64), ss, uu] [(.long (-1)), (.long ((-1 : Int64) <<< (p2 &&& 0x3f).toInt64)), (.long x16), (.int (p2 >>> ((6 : Int32) &&& 31))), (.ref o1)])) _
          refine XS.lxor X15.here hx rfl (hb hby d20_109) rfl ?_
          refine XS.land X15.here hx rfl (hb hby d20_110) rfl ?_
          refine st17 _ ?_
          refine XS.iloadN X17.here hx rfl (hb hby d20_112) rfl ?_
          refine XS.iconst X17.here hx rfl (hb hby d20_113) ?_
          refine XS.iadd X17.here hx rfl (hb hby d20_114) rfl ?_
          refine XS.istore X17.here hx rfl (hb hby d20_115) rfl (l' := #[va o0, vi p2, vi r_11, vi (p2 >>> ((6 : Int32) &&& 31)), vi (p1 - (1 : Int32)), vl ((-1 : Int64) <<< (p2 &&& 0x3f).toInt64), ss, vl (((-1 : Int64).toUInt64 >>> ((-r_11) &&& 0x3f).toInt64.toUInt64).toInt64), ss, vi ((p2 >>> ((6 : Int32) &&& 31)) + (1 : Int32))]) rfl ?_
          refine XS.iload X17.here hx rfl (hb hby d20_117) rfl ?_
          show Steps p.tables e below (T17.setTop (mkF m 119 #[va o0, vi p2, vi r_11, vi (p2 >>> ((6 : Int32) &&& 31)), vi (p1 - (1 : Int32)), vl ((-1 : Int64) <<< (p2 &&& 0x3f).toInt64), ss, vl (((-1 : Int64).toUInt64 >>> ((-r_11) &&& 0x3f).toInt64.toUInt64).toInt64), ss, vi ((p2 >>> ((6 : Int32) &&& 31)) + (1 : Int32))] [(.int ((p2 >>> ((6 : Int32) &&& 31)) + (1 : Int32)))])) _
          refine XS.iload X17.here hx rfl (hb hby d20_119) rfl ?_
          exact k)
        by_cases hc18 : ((p2 >>> ((6 : Int32) &&& 31)) + (1 : Int32)) < (p1 - (1 : Int32))
        · have fc20 := (F_words_o0.other W17 (Or.inl ne_o0_o1))
          obtain ⟨T21, X21, e21, st21⟩ := getF X17 hx hZ hown (host := "") (Or.inl (ww hw 73 rfl)) Via.refl e17 fc20 (g := (mkF m 125 #[va o0, vi p2, vi r_11, vi (p2 >>> ((6 : Int32) &&& 31)), vi (p1 - (1 : Int32)), vl ((-1 : Int64) <<< (p2 &&& 0x3f).toInt64), ss, vl (((-1 : Int64).toUInt64 >>> ((-r_11) &&& 0x3f).toInt64.toUInt64).toInt64), ss, vi ((p2 >>> ((6 : Int32) &&& 31)) + (1 : Int32))] [(.ref o0)])) rfl rfl (hb hby d20_125)
          obtain ⟨T22, h22, X22, e22, W22, V22, st22⟩ := own_lastore X21 hx hZ e21 V17 (own_clil1 hs he hc18 hU hN) (g := (mkF m 131 #[va o0, vi p2, vi r_11, vi (p2 >>> ((6 : Int32) &&& 31)), vi (p1 - (1 : Int32)), vl ((-1 : Int64) <<< (p2 &&& 0x3f).toInt64), ss, vl (((-1 : Int64).toUInt64 >>> ((-r_11) &&& 0x3f).toInt64.toUInt64).toInt64), ss, vi ((p2 >>> ((6 : Int32) &&& 31)) + (1 : Int32))] [(.long 0), (.int ((p2 >>> ((6 : Int32) &&& 31)) + (1 : Int32))), (.ref o1)])) rfl rfl (hb hby d20_131)
          have O22 := O17.wr W22 g_o1
          have K22 : Keep h0 h22 [o0, o1] := K17.wr W22 (Or.inl (List.mem_of_getElem? (i := 1) rfl))
          have N22 := Fr.snoc X22 N17 g_o1
          have pre_24 : ∀ t, Steps p.tables e below (T22.setTop (mkF m 121 #[va o0, vi p2, vi r_11, vi (p2 >>> ((6 : Int32) &&& 31)), vi (p1 - (1 : Int32)), vl ((-1 : Int64) <<< (p2 &&& 0x3f).toInt64), ss, vl (((-1 : Int64).toUInt64 >>> ((-r_11) &&& 0x3f).toInt64.toUInt64).toInt64), ss, vi (((p2 >>> ((6 : Int32) &&& 31)) + (1 : Int32)) + (1 : Int32))] [(.int (p1 - (1 : Int32))), (.int (((p2 >>> ((6 : Int32) &&& 31)) + (1 : Int32)) + (1 : Int32)))])) t → Steps p.tables e below (s₁.setTop (mkF m 0 #[va o0, vi p2, vi p3, uu, uu, uu, uu, uu, uu, uu] [])) t := fun t k => pre_19 t (by
            show Steps p.tables e below (T17.setTop (mkF m 121 #[va o0, vi p2, vi r_11, vi (p2 >>> ((6 : Int32) &&& 31)), vi (p1 - (1 : Int32)), vl ((-1 : Int64) <<< (p2 &&& 0x3f).toInt64), ss, vl (((-1 : Int64).toUInt64 >>> ((-r_11) &&& 0x3f).toInt64.toUInt64).toInt64), ss, vi ((p2 >>> ((6 : Int32) &&& 31)) + (1 : Int32))] [(.int (p1 - (1 : Int32))), (.int ((p2 >>> ((6 : Int32) &&& 31)) + (1 : Int32)))])) _
            refine XS.icmpNo X17.here hx rfl (hb hby d20_121) rfl (tlt hc18).2.1 ?_
            refine XS.aloadN X17.here hx rfl (hb hby d20_124) rfl rfl ?_
            refine st21 _ ?_
            refine XS.iload X21.here hx rfl (hb hby d20_128) rfl ?_
            refine XS.lconst X21.here hx rfl (hb hby d20_130) ?_
            refine st22 _ ?_
            refine XS.iinc X22.here hx rfl (hb hby d20_132) rfl (l' := #[va o0, vi p2, vi r_11, vi (p2 >>> ((6 : Int32) &&& 31)), vi (p1 - (1 : Int32)), vl ((-1 : Int64) <<< (p2 &&& 0x3f).toInt64), ss, vl (((-1 : Int64).toUInt64 >>> ((-r_11) &&& 0x3f).toInt64.toUInt64).toInt64), ss, vi (((p2 >>> ((6 : Int32) &&& 31)) + (1 : Int32)) + (1 : Int32))]) rfl ?_
            refine XS.goto X22.here hx rfl (pc0 := 135) (pc' := 117) rfl (hb hby d20_135) (by decide) (by decide) ?_
            show Steps p.tables e below (T22.setTop (mkF m 117 #[va o0, vi p2, vi r_11, vi (p2 >>> ((6 : Int32) &&& 31)), vi (p1 - (1 : Int32)), vl ((-1 : Int64) <<< (p2 &&& 0x3f).toInt64), ss, vl (((-1 : Int64).toUInt64 >>> ((-r_11) &&& 0x3f).toInt64.toUInt64).toInt64), ss, vi (((p2 >>> ((6 : Int32) &&& 31)) + (1 : Int32)) + (1 : Int32))] [])) _
            refine XS.iload X22.here hx rfl (hb hby d20_117) rfl ?_
            refine XS.iload X22.here hx rfl (hb hby d20_119) rfl ?_
            exact k)
          by_cases hc23 : (((p2 >>> ((6 : Int32) &&& 31)) + (1 : Int32)) + (1 : Int32)) < (p1 - (1 : Int32))
          · have fc25 := (fc20.other W22 (Or.inl ne_o0_o1))
            obtain ⟨T26, X26, e26, st26⟩ := getF X22 hx hZ hown (host := "") (Or.inl (ww hw 73 rfl)) Via.refl e22 fc25 (g := (mkF m 125 #[va o0, vi p2, vi r_11, vi (p2 >>> ((6 : Int32) &&& 31)), vi (p1 - (1 : Int32)), vl ((-1 : Int64) <<< (p2 &&& 0x3f).toInt64), ss, vl (((-1 : Int64).toUInt64 >>> ((-r_11) &&& 0x3f).toInt64.toUInt64).toInt64), ss, vi (((p2 >>> ((6 : Int32) &&& 31)) + (1 : Int32)) + (1 : Int32))] [(.ref o0)])) rfl rfl (hb hby d20_125)
            obtain ⟨T27, h27, X27, e27, W27, V27, st27⟩ := own_lastore X26 hx hZ e26 V22 (own_clil2 hs he hc23 hU hN) (g := (mkF m 131 #[va o0, vi p2, vi r_11, vi (p2 >>> ((6 : Int32) &&& 31)), vi (p1 - (1 : Int32)), vl ((-1 : Int64) <<< (p2 &&& 0x3f).toInt64), ss, vl (((-1 : Int64).toUInt64 >>> ((-r_11) &&& 0x3f).toInt64.toUInt64).toInt64), ss, vi (((p2 >>> ((6 : Int32) &&& 31)) + (1 : Int32)) + (1 : Int32))] [(.long 0), (.int (((p2 >>> ((6 : Int32) &&& 31)) + (1 : Int32)) + (1 : Int32))), (.ref o1)])) rfl rfl (hb hby d20_131)
            have O27 := O22.wr W27 g_o1
            have K27 : Keep h0 h27 [o0, o1] := K22.wr W27 (Or.inl (List.mem_of_getElem? (i := 1) rfl))
            have N27 := Fr.snoc X27 N22 g_o1
            have hc28 : ¬ (((((p2 >>> ((6 : Int32) &&& 31)) + (1 : Int32)) + (1 : Int32)) + (1 : Int32)) < (p1 - (1 : Int32))) := (own_cl3 he hs hU hN)
            have fc29 := (fc25.other W27 (Or.inl ne_o0_o1))
            obtain ⟨T30, X30, e30, st30⟩ := getF X27 hx hZ hown (host := "") (Or.inl (ww hw 73 rfl)) Via.refl e27 fc29 (g := (mkF m 139 #[va o0, vi p2, vi r_11, vi (p2 >>> ((6 : Int32) &&& 31)), vi (p1 - (1 : Int32)), vl ((-1 : Int64) <<< (p2 &&& 0x3f).toInt64), ss, vl (((-1 : Int64).toUInt64 >>> ((-r_11) &&& 0x3f).toInt64.toUInt64).toInt64), ss, vi ((((p2 >>> ((6 : Int32) &&& 31)) + (1 : Int32)) + (1 : Int32)) + (1 : Int32))] [(.ref o0)])) rfl rfl (hb hby d20_139)
            obtain ⟨x31, st31⟩ := own_laload X30 hx hZ e30 V27 (own_clie hs he hU) (g := (mkF m 145 #[va o0, vi p2, vi r_11, vi (p2 >>> ((6 : Int32) &&& 31)), vi (p1 - (1 : Int32)), vl ((-1 : Int64) <<< (p2 &&& 0x3f).toInt64), ss, vl (((-1 : Int64).toUInt64 >>> ((-r_11) &&& 0x3f).toInt64.toUInt64).toInt64), ss, vi ((((p2 >>> ((6 : Int32) &&& 31)) + (1 : Int32)) + (1 : Int32)) + (1 : Int32))] [(.int (p1 - (1 : Int32))), (.ref o1), (.int (p1 - (1 : Int32))), (.ref o1)])) rfl rfl (hb hby d20_145)
            obtain ⟨T32, h32, X32, e32, W32, V32, st32⟩ := own_lastore X30 hx hZ e30 V27 (own_clie hs he hU) (g := (mkF m 153 #[va o0, vi p2, vi r_11, vi (p2 >>> ((6 : Int32) &&& 31)), vi (p1 - (1 : Int32)), vl ((-1 : Int64) <<< (p2 &&& 0x3f).toInt64), ss, vl (((-1 : Int64).toUInt64 >>> ((-r_11) &&& 0x3f).toInt64.toUInt64).toInt64), ss, vi ((((p2 >>> ((6 : Int32) &&& 31)) + (1 : Int32)) + (1 : Int32)) + (1 : Int32))] [(.long (x31 &&& ((((-1 : Int64).toUInt64 >>> ((-r_11) &&& 0x3f).toInt64.toUInt64).toInt64) ^^^ (-1 : Int64)))), (.int (p1 - (1 : Int32))), (.ref o1)])) rfl rfl (hb hby d20_153)
            have O32 := O27.wr W32 g_o1
            have K32 : Keep h0 h32 [o0, o1] := K27.wr W32 (Or.inl (List.mem_of_getElem? (i := 1) rfl))
            have N32 := Fr.snoc X32 N27 g_o1
            have fc33 := ((((E_o0.wr W17).wr W22).wr W27).wr W32)
            have fc34 := (fc29.other W32 (Or.inl ne_o0_o1))
            have fc35 := ((((F_wordsInUse_o0.other W17 (Or.inl ne_o0_o1)).other W22 (Or.inl ne_o0_o1)).other W27 (Or.inl ne_o0_o1)).other W32 (Or.inl ne_o0_o1))
            obtain ⟨cq36, qa36, qb36⟩ := fc33.cell
            obtain ⟨_, _, ⟨T36, L36, k36, n36⟩, -, X36, ⟨Lc36, hQ36, l36, y36, z36⟩, st36⟩ := X32.privateBack hx (y := My22) hown (mvT hZ (ww hw 140 rfl)) (mvT hZ (ww hw 141 rfl)) (own_selp (by decide) (mvT hZ (ww hw 54 rfl)) (mvP hZ (ww hw 142 rfl)) (mvT hZ (ww hw 141 rfl))) (Cond.privateMethod_at (mvP hZ (ww hw 142 rfl) (args := #[]))) (mvT hZ (ww hw 144 rfl)) (by decide) (backOf (W := 0) (rm22_0 l Z a0 hw []  o0 o1 p1 p0 h32 n0 O32 S fc33 fc34 fc35 V32 g_o0 hU hN) hZ (ww hw 144 rfl) (ww hw 55 rfl) (by decide) (by decide)) (g := (mkF m 155 #[va o0, vi p2, vi r_11, vi (p2 >>> ((6 : Int32) &&& 31)), vi (p1 - (1 : Int32)), vl ((-1 : Int64) <<< (p2 &&& 0x3f).toInt64), ss, vl (((-1 : Int64).toUInt64 >>> ((-r_11) &&& 0x3f).toInt64.toUInt64).toInt64), ss, vi ((((p2 >>> ((6 : Int32) &&& 31)) + (1 : Int32)) + (1 : Int32)) + (1 : Int32))] [(.ref o0)])) rfl (by rw [hml]; rfl) (Steps.refl _) (a := o0) (by rw [e32]; exact qa36) qb36 (argsL := []) (rest := []) (lenOf pd_7 rfl) rfl (by show 2 * 0 + _ ≤ _; exact Nat.le_of_eq rfl) (hb hby d20_155) (fun _ _ => ⟨rfl, e32, (by decide : 0 + 0 ≤ _), (by decide : 0 + 0 ≤ _)⟩)
            dsimp only [Pt.U, Pt.locs, Pt.cells, Pt.slots] at X36 l36 y36 z36 st36 hQ36
            subst l36 y36 z36
            obtain ⟨u_36, rfl, Nq36, Kc36, P0_36, P1_36, P2_36, np0_36⟩ := hQ36
            have N36 := Fr.app N32 Nq36
            have O36 := O32.keep Kc36 (allS g_o0 all0)
            have K36 : Keep h0 T36.heap [o0, o1] := K32.trans Kc36 (allS (Or.inl (List.mem_of_getElem? (i := 0) rfl)) all0)
            obtain ⟨cq37, qa37, qb37⟩ := P0_36.cell
            obtain ⟨_, _, ⟨T37, L37, k37, n37⟩, -, X37, ⟨Lc37, hQ37, l37, y37, z37⟩, st37⟩ := X36.privateBack hx (y := My12) hown (mvT hZ (ww hw 89 rfl)) (mvT hZ (ww hw 90 rfl)) (own_selp (by decide) (mvT hZ (ww hw 54 rfl)) (mvP hZ (ww hw 91 rfl)) (mvT hZ (ww hw 90 rfl))) (Cond.privateMethod_at (mvP hZ (ww hw 91 rfl) (args := #[]))) (mvT hZ (ww hw 93 rfl)) (by decide) (backOf (W := 0) (rm12_0 l Z a0 hw []  o0 o1 u_36 p0 T36.heap n0 O36 S) hZ (ww hw 93 rfl) (ww hw 55 rfl) (by decide) (by decide)) (g := (mkF m 159 #[va o0, vi p2, vi r_11, vi (p2 >>> ((6 : Int32) &&& 31)), vi (p1 - (1 : Int32)), vl ((-1 : Int64) <<< (p2 &&& 0x3f).toInt64), ss, vl (((-1 : Int64).toUInt64 >>> ((-r_11) &&& 0x3f).toInt64.toUInt64).toInt64), ss, vi ((((p2 >>> ((6 : Int32) &&& 31)) + (1 : Int32)) + (1 : Int32)) + (1 : Int32))] [(.ref o0)])) rfl (by rw [hml]; rfl) (Steps.refl _) (a := o0) qa37 qb37 (argsL := []) (rest := []) (lenOf pd_7 rfl) rfl (by show 2 * 0 + _ ≤ _; exact Nat.le_of_eq rfl) (hb hby d20_159) (fun _ _ => ⟨rfl, rfl, (by decide : 0 + 0 ≤ _), (by decide : 0 + 0 ≤ _)⟩)
            dsimp only [Pt.U, Pt.locs, Pt.cells, Pt.slots] at X37 l37 y37 z37 st37 hQ37
            subst l37 y37 z37
            obtain ⟨rfl, Nq37, e37⟩ := hQ37
            have N37 := Fr.app N36 Nq37
            obtain ⟨fs, hr, hrun, hended, hW, hsame⟩ := X37.leave (v := none) (fun _ => rfl) hlk
            have fc38 := (V32.keep Kc36 (ninS (Ne.symm ne_o0_o1) nin0))
            refine ⟨_, _, pre_24 _ ?_, hrun, hended, _, _, rfl, ?_, ⟨_, rfl⟩, hW, hsame.mono (by decide) (by decide)⟩
            · show Steps p.tables e below (T22.setTop (mkF m 121 #[va o0, vi p2, vi r_11, vi (p2 >>> ((6 : Int32) &&& 31)), vi (p1 - (1 : Int32)), vl ((-1 : Int64) <<< (p2 &&& 0x3f).toInt64), ss, vl (((-1 : Int64).toUInt64 >>> ((-r_11) &&& 0x3f).toInt64.toUInt64).toInt64), ss, vi (((p2 >>> ((6 : Int32) &&& 31)) + (1 : Int32)) + (1 : Int32))] [(.int (p1 - (1 : Int32))), (.int (((p2 >>> ((6 : Int32) &&& 31)) + (1 : Int32)) + (1 : Int32)))])) _
              refine XS.icmpNo X22.here hx rfl (hb hby d20_121) rfl (tlt hc23).2.1 ?_
              refine XS.aloadN X22.here hx rfl (hb hby d20_124) rfl rfl ?_
              refine st26 _ ?_
              refine XS.iload X26.here hx rfl (hb hby d20_128) rfl ?_
              refine XS.lconst X26.here hx rfl (hb hby d20_130) ?_
              refine st27 _ ?_
              refine XS.iinc X27.here hx rfl (hb hby d20_132) rfl (l' := #[va o0, vi p2, vi r_11, vi (p2 >>> ((6 : Int32) &&& 31)), vi (p1 - (1 : Int32)), vl ((-1 : Int64) <<< (p2 &&& 0x3f).toInt64), ss, vl (((-1 : Int64).toUInt64 >>> ((-r_11) &&& 0x3f).toInt64.toUInt64).toInt64), ss, vi ((((p2 >>> ((6 : Int32) &&& 31)) + (1 : Int32)) + (1 : Int32)) + (1 : Int32))]) rfl ?_
              refine XS.goto X27.here hx rfl (pc0 := 135) (pc' := 117) rfl (hb hby d20_135) (by decide) (by decide) ?_
              show Steps p.tables e below (T27.setTop (mkF m 117 #[va o0, vi p2, vi r_11, vi (p2 >>> ((6 : Int32) &&& 31)), vi (p1 - (1 : Int32)), vl ((-1 : Int64) <<< (p2 &&& 0x3f).toInt64), ss, vl (((-1 : Int64).toUInt64 >>> ((-r_11) &&& 0x3f).toInt64.toUInt64).toInt64), ss, vi ((((p2 >>> ((6 : Int32) &&& 31)) + (1 : Int32)) + (1 : Int32)) + (1 : Int32))] [])) _
              refine XS.iload X27.here hx rfl (hb hby d20_117) rfl ?_
              refine XS.iload X27.here hx rfl (hb hby d20_119) rfl ?_
              refine XS.icmpYes X27.here hx rfl (pc0 := 121) (pc' := 138) rfl (hb hby d20_121) rfl (flt hc28).2.1 (by decide) (by decide) ?_
              refine XS.aloadN X27.here hx rfl (hb hby d20_138) rfl rfl ?_
              refine st30 _ ?_
              refine XS.iload X30.here hx rfl (hb hby d20_142) rfl ?_
              refine Jvm.Free.XT.dup2 X30.here hx rfl (hb hby d20_144) rfl rfl rfl ?_
              refine st31 _ ?_
              show Steps p.tables e below (T30.setTop (mkF m 146 #[va o0, vi p2, vi r_11, vi (p2 >>> ((6 : Int32) &&& 31)), vi (p1 - (1 : Int32)), vl ((-1 : Int64) <<< (p2 &&& 0x3f).toInt64), ss, vl (((-1 : Int64).toUInt64 >>> ((-r_11) &&& 0x3f).toInt64.toUInt64).toInt64), ss, vi ((((p2 >>> ((6 : Int32) &&& 31)) + (1 : Int32)) + (1 : Int32)) + (1 : Int32))] [(.long x31), (.int (p1 - (1 : Int32))), (.ref o1)])) _
              refine XS.lload X30.here hx rfl (hb hby d20_146) rfl ?_
              refine X30.ldc2Long hx hown (mvT hZ (ww hw 122 rfl)) (g := (mkF m 148 #[va o0, vi p2, vi r_11, vi (p2 >>> ((6 : Int32) &&& 31)), vi (p1 - (1 : Int32)), vl ((-1 : Int64) <<< (p2 &&& 0x3f).toInt64), ss, vl (((-1 : Int64).toUInt64 >>> ((-r_11) &&& 0x3f).toInt64.toUInt64).toInt64), ss, vi ((((p2 >>> ((6 : Int32) &&& 31)) + (1 : Int32)) + (1 : Int32)) + (1 : Int32))] [(.long (((-1 : Int64).toUInt64 >>> ((-r_11) &&& 0x3f).toInt64.toUInt64).toInt64)), (.long x31), (.int (p1 - (1 : Int32))), (.ref o1)])) rfl (hb hby d20_148) _ ?_
              refine XS.lxor X30.here hx rfl (hb hby d20_151) rfl ?_
              refine XS.land X30.here hx rfl (hb hby d20_152) rfl ?_
              refine st32 _ ?_
              refine XS.aloadN X32.here hx rfl (hb hby d20_154) rfl rfl ?_
              refine st36.trans ?_
              refine XS.aloadN X36.here hx rfl (hb hby d20_158) rfl rfl ?_
              show Steps p.tables e below (T36.setTop (mkF m 159 #[va o0, vi p2, vi r_11, vi (p2 >>> ((6 : Int32) &&& 31)), vi (p1 - (1 : Int32)), vl ((-1 : Int64) <<< (p2 &&& 0x3f).toInt64), ss, vl (((-1 : Int64).toUInt64 >>> ((-r_11) &&& 0x3f).toInt64.toUInt64).toInt64), ss, vi ((((p2 >>> ((6 : Int32) &&& 31)) + (1 : Int32)) + (1 : Int32)) + (1 : Int32))] [(.ref o0)])) _
              refine st37.trans ?_
              exact X37.returnOut hx hrt (hb hby d20_162) hr
            · show Q20_0 Z  o0 o1 p1 p0 p2 p3 h0 n0 none T37.heap _
              rw [e37]; exact ⟨u_36, rfl, N37, K36, P0_36, P1_36, P2_36, fc38, np0_36⟩
          · have fc25 := (fc20.other W22 (Or.inl ne_o0_o1))
            obtain ⟨T26, X26, e26, st26⟩ := getF X22 hx hZ hown (host := "") (Or.inl (ww hw 73 rfl)) Via.refl e22 fc25 (g := (mkF m 139 #[va o0, vi p2, vi r_11, vi (p2 >>> ((6 : Int32) &&& 31)), vi (p1 - (1 : Int32)), vl ((-1 : Int64) <<< (p2 &&& 0x3f).toInt64), ss, vl (((-1 : Int64).toUInt64 >>> ((-r_11) &&& 0x3f).toInt64.toUInt64).toInt64), ss, vi (((p2 >>> ((6 : Int32) &&& 31)) + (1 : Int32)) + (1 : Int32))] [(.ref o0)])) rfl rfl (hb hby d20_139)
            obtain ⟨x27, st27⟩ := own_laload X26 hx hZ e26 V22 (own_clie hs he hU) (g := (mkF m 145 #[va o0, vi p2, vi r_11, vi (p2 >>> ((6 : Int32) &&& 31)), vi (p1 - (1 : Int32)), vl ((-1 : Int64) <<< (p2 &&& 0x3f).toInt64), ss, vl (((-1 : Int64).toUInt64 >>> ((-r_11) &&& 0x3f).toInt64.toUInt64).toInt64), ss, vi (((p2 >>> ((6 : Int32) &&& 31)) + (1 : Int32)) + (1 : Int32))] [(.int (p1 - (1 : Int32))), (.ref o1), (.int (p1 - (1 : Int32))), (.ref o1)])) rfl rfl (hb hby d20_145)
            obtain ⟨T28, h28, X28, e28, W28, V28, st28⟩ := own_lastore X26 hx hZ e26 V22 (own_clie hs he hU) (g := (mkF m 153 #[va o0, vi p2, vi r_11, vi (p2 >>> ((6 : Int32) &&& 31)), vi (p1 - (1 : Int32)), vl ((-1 : Int64) <<< (p2 &&& 0x3f).toInt64), ss, vl (((-1 : Int64).toUInt64 >>> ((-r_11) &&& 0x3f).toInt64.toUInt64).toInt64), ss, vi (((p2 >>> ((6 : Int32) &&& 31)) + (1 : Int32)) + (1 : Int32))] [(.long (x27 &&& ((((-1 : Int64).toUInt64 >>> ((-r_11) &&& 0x3f).toInt64.toUInt64).toInt64) ^^^ (-1 : Int64)))), (.int (p1 - (1 : Int32))), (.ref o1)])) rfl rfl (hb hby d20_153)
            have O28 := O22.wr W28 g_o1
            have K28 : Keep h0 h28 [o0, o1] := K22.wr W28 (Or.inl (List.mem_of_getElem? (i := 1) rfl))
            have N28 := Fr.snoc X28 N22 g_o1
            have fc29 := (((E_o0.wr W17).wr W22).wr W28)
            have fc30 := (fc25.other W28 (Or.inl ne_o0_o1))
            have fc31 := (((F_wordsInUse_o0.other W17 (Or.inl ne_o0_o1)).other W22 (Or.inl ne_o0_o1)).other W28 (Or.inl ne_o0_o1))
            obtain ⟨cq32, qa32, qb32⟩ := fc29.cell
            obtain ⟨_, _, ⟨T32, L32, k32, n32⟩, -, X32, ⟨Lc32, hQ32, l32, y32, z32⟩, st32⟩ := X28.privateBack hx (y := My22) hown (mvT hZ (ww hw 140 rfl)) (mvT hZ (ww hw 141 rfl)) (own_selp (by decide) (mvT hZ (ww hw 54 rfl)) (mvP hZ (ww hw 142 rfl)) (mvT hZ (ww hw 141 rfl))) (Cond.privateMethod_at (mvP hZ (ww hw 142 rfl) (args := #[]))) (mvT hZ (ww hw 144 rfl)) (by decide) (backOf (W := 0) (rm22_0 l Z a0 hw []  o0 o1 p1 p0 h28 n0 O28 S fc29 fc30 fc31 V28 g_o0 hU hN) hZ (ww hw 144 rfl) (ww hw 55 rfl) (by decide) (by decide)) (g := (mkF m 155 #[va o0, vi p2, vi r_11, vi (p2 >>> ((6 : Int32) &&& 31)), vi (p1 - (1 : Int32)), vl ((-1 : Int64) <<< (p2 &&& 0x3f).toInt64), ss, vl (((-1 : Int64).toUInt64 >>> ((-r_11) &&& 0x3f).toInt64.toUInt64).toInt64), ss, vi (((p2 >>> ((6 : Int32) &&& 31)) + (1 : Int32)) + (1 : Int32))] [(.ref o0)])) rfl (by rw [hml]; rfl) (Steps.refl _) (a := o0) (by rw [e28]; exact qa32) qb32 (argsL := []) (rest := []) (lenOf pd_7 rfl) rfl (by show 2 * 0 + _ ≤ _; exact Nat.le_of_eq rfl) (hb hby d20_155) (fun _ _ => ⟨rfl, e28, (by decide : 0 + 0 ≤ _), (by decide : 0 + 0 ≤ _)⟩)
            dsimp only [Pt.U, Pt.locs, Pt.cells, Pt.slots] at X32 l32 y32 z32 st32 hQ32
            subst l32 y32 z32
            obtain ⟨u_32, rfl, Nq32, Kc32, P0_32, P1_32, P2_32, np0_32⟩ := hQ32
            have N32 := Fr.app N28 Nq32
            have O32 := O28.keep Kc32 (allS g_o0 all0)
            have K32 : Keep h0 T32.heap [o0, o1] := K28.trans Kc32 (allS (Or.inl (List.mem_of_getElem? (i := 0) rfl)) all0)
            obtain ⟨cq33, qa33, qb33⟩ := P0_32.cell
            obtain ⟨_, _, ⟨T33, L33, k33, n33⟩, -, X33, ⟨Lc33, hQ33, l33, y33, z33⟩, st33⟩ := X32.privateBack hx (y := My12) hown (mvT hZ (ww hw 89 rfl)) (mvT hZ (ww hw 90 rfl)) (own_selp (by decide) (mvT hZ (ww hw 54 rfl)) (mvP hZ (ww hw 91 rfl)) (mvT hZ (ww hw 90 rfl))) (Cond.privateMethod_at (mvP hZ (ww hw 91 rfl) (args := #[]))) (mvT hZ (ww hw 93 rfl)) (by decide) (backOf (W := 0) (rm12_0 l Z a0 hw []  o0 o1 u_32 p0 T32.heap n0 O32 S) hZ (ww hw 93 rfl) (ww hw 55 rfl) (by decide) (by decide)) (g := (mkF m 159 #[va o0, vi p2, vi r_11, vi (p2 >>> ((6 : Int32) &&& 31)), vi (p1 - (1 : Int32)), vl ((-1 : Int64) <<< (p2 &&& 0x3f).toInt64), ss, vl (((-1 : Int64).toUInt64 >>> ((-r_11) &&& 0x3f).toInt64.toUInt64).toInt64), ss, vi (((p2 >>> ((6 : Int32) &&& 31)) + (1 : Int32)) + (1 : Int32))] [(.ref o0)])) rfl (by rw [hml]; rfl) (Steps.refl _) (a := o0) qa33 qb33 (argsL := []) (rest := []) (lenOf pd_7 rfl) rfl (by show 2 * 0 + _ ≤ _; exact Nat.le_of_eq rfl) (hb hby d20_159) (fun _ _ => ⟨rfl, rfl, (by decide : 0 + 0 ≤ _), (by decide : 0 + 0 ≤ _)⟩)
            dsimp only [Pt.U, Pt.locs, Pt.cells, Pt.slots] at X33 l33 y33 z33 st33 hQ33
            subst l33 y33 z33
            obtain ⟨rfl, Nq33, e33⟩ := hQ33
            have N33 := Fr.app N32 Nq33
            obtain ⟨fs, hr, hrun, hended, hW, hsame⟩ := X33.leave (v := none) (fun _ => rfl) hlk
            have fc34 := (V28.keep Kc32 (ninS (Ne.symm ne_o0_o1) nin0))
            refine ⟨_, _, pre_24 _ ?_, hrun, hended, _, _, rfl, ?_, ⟨_, rfl⟩, hW, hsame.mono (by decide) (by decide)⟩
            · show Steps p.tables e below (T22.setTop (mkF m 121 #[va o0, vi p2, vi r_11, vi (p2 >>> ((6 : Int32) &&& 31)), vi (p1 - (1 : Int32)), vl ((-1 : Int64) <<< (p2 &&& 0x3f).toInt64), ss, vl (((-1 : Int64).toUInt64 >>> ((-r_11) &&& 0x3f).toInt64.toUInt64).toInt64), ss, vi (((p2 >>> ((6 : Int32) &&& 31)) + (1 : Int32)) + (1 : Int32))] [(.int (p1 - (1 : Int32))), (.int (((p2 >>> ((6 : Int32) &&& 31)) + (1 : Int32)) + (1 : Int32)))])) _
              refine XS.icmpYes X22.here hx rfl (pc0 := 121) (pc' := 138) rfl (hb hby d20_121) rfl (flt hc23).2.1 (by decide) (by decide) ?_
              refine XS.aloadN X22.here hx rfl (hb hby d20_138) rfl rfl ?_
              refine st26 _ ?_
              refine XS.iload X26.here hx rfl (hb hby d20_142) rfl ?_
              refine Jvm.Free.XT.dup2 X26.here hx rfl (hb hby d20_144) rfl rfl rfl ?_
              refine st27 _ ?_
              refine XS.lload X26.here hx rfl (hb hby d20_146) rfl ?_
              refine X26.ldc2Long hx hown (mvT hZ (ww hw 122 rfl)) (g := (mkF m 148 #[va o0, vi p2, vi r_11, vi (p2 >>> ((6 : Int32) &&& 31)), vi (p1 - (1 : Int32)), vl ((-1 : Int64) <<< (p2 &&& 0x3f).toInt64), ss, vl (((-1 : Int64).toUInt64 >>> ((-r_11) &&& 0x3f).toInt64.toUInt64).toInt64), ss, vi (((p2 >>> ((6 : Int32) &&& 31)) + (1 : Int32)) + (1 : Int32))] [(.long (((-1 : Int64).toUInt64 >>> ((-r_11) &&& 0x3f).toInt64.toUInt64).toInt64)), (.long x27), (.int (p1 - (1 : Int32))), (.ref o1)])) rfl (hb hby d20_148) _ ?_
              show Steps p.tables e below (T26.setTop (mkF m 151 #[va o0, vi p2, vi r_11, vi (p2 >>> ((6 : Int32) &&& 31)), vi (p1 - (1 : Int32)), vl ((-1 : Int64) <<< (p2 &&& 0x3f).toInt64), ss, vl (((-1 : Int64).toUInt64 >>> ((-r_11) &&& 0x3f).toInt64.toUInt64).toInt64), ss, vi (((p2 >>> ((6 : Int32) &&& 31)) + (1 : Int32)) + (1 : Int32))] [(.long (-1)), (.long (((-1 : Int64).toUInt64 >>> ((-r_11) &&& 0x3f).toInt64.toUInt64).toInt64)), (.long x27), (.int (p1 - (1 : Int32))), (.ref o1)])) _
              refine XS.lxor X26.here hx rfl (hb hby d20_151) rfl ?_
              refine XS.land X26.here hx rfl (hb hby d20_152) rfl ?_
              refine st28 _ ?_
              refine XS.aloadN X28.here hx rfl (hb hby d20_154) rfl rfl ?_
              refine st32.trans ?_
              refine XS.aloadN X32.here hx rfl (hb hby d20_158) rfl rfl ?_
              refine st33.trans ?_
              exact X33.returnOut hx hrt (hb hby d20_162) hr
            · show Q20_0 Z  o0 o1 p1 p0 p2 p3 h0 n0 none T33.heap _
              rw [e33]; exact ⟨u_32, rfl, N33, K32, P0_32, P1_32, P2_32, fc34, np0_32⟩
        · have fc20 := (F_words_o0.other W17 (Or.inl ne_o0_o1))
          obtain ⟨T21, X21, e21, st21⟩ := getF X17 hx hZ hown (host := "") (Or.inl (ww hw 73 rfl)) Via.refl e17 fc20 (g := (mkF m 139 #[va o0, vi p2, vi r_11, vi (p2 >>> ((6 : Int32) &&& 31)), vi (p1 - (1 : Int32)), vl ((-1 : Int64) <<< (p2 &&& 0x3f).toInt64), ss, vl (((-1 : Int64).toUInt64 >>> ((-r_11) &&& 0x3f).toInt64.toUInt64).toInt64), ss, vi ((p2 >>> ((6 : Int32) &&& 31)) + (1 : Int32))] [(.ref o0)])) rfl rfl (hb hby d20_139)
          obtain ⟨x22, st22⟩ := own_laload X21 hx hZ e21 V17 (own_clie hs he hU) (g := (mkF m 145 #[va o0, vi p2, vi r_11, vi (p2 >>> ((6 : Int32) &&& 31)), vi (p1 - (1 : Int32)), vl ((-1 : Int64) <<< (p2 &&& 0x3f).toInt64), ss, vl (((-1 : Int64).toUInt64 >>> ((-r_11) &&& 0x3f).toInt64.toUInt64).toInt64), ss, vi ((p2 >>> ((6 : Int32) &&& 31)) + (1 : Int32))] [(.int (p1 - (1 : Int32))), (.ref o1), (.int (p1 - (1 : Int32))), (.ref o1)])) rfl rfl (hb hby d20_145)
          obtain ⟨T23, h23, X23, e23, W23, V23, st23⟩ := own_lastore X21 hx hZ e21 V17 (own_clie hs he hU) (g := (mkF m 153 #[va o0, vi p2, vi r_11, vi (p2 >>> ((6 : Int32) &&& 31)), vi (p1 - (1 : Int32)), vl ((-1 : Int64) <<< (p2 &&& 0x3f).toInt64), ss, vl (((-1 : Int64).toUInt64 >>> ((-r_11) &&& 0x3f).toInt64.toUInt64).toInt64), ss, vi ((p2 >>> ((6 : Int32) &&& 31)) + (1 : Int32))] [(.long (x22 &&& ((((-1 : Int64).toUInt64 >>> ((-r_11) &&& 0x3f).toInt64.toUInt64).toInt64) ^^^ (-1 : Int64)))), (.int (p1 - (1 : Int32))), (.ref o1)])) rfl rfl (hb hby d20_153)
          have O23 := O17.wr W23 g_o1
          have K23 : Keep h0 h23 [o0, o1] := K17.wr W23 (Or.inl (List.mem_of_getElem? (i := 1) rfl))
          have N23 := Fr.snoc X23 N17 g_o1
          have fc24 := ((E_o0.wr W17).wr W23)
          have fc25 := (fc20.other W23 (Or.inl ne_o0_o1))
          have fc26 := ((F_wordsInUse_o0.other W17 (Or.inl ne_o0_o1)).other W23 (Or.inl ne_o0_o1))
          obtain ⟨cq27, qa27, qb27⟩ := fc24.cell
          obtain ⟨_, _, ⟨T27, L27, k27, n27⟩, -, X27, ⟨Lc27, hQ27, l27, y27, z27⟩, st27⟩ := X23.privateBack hx (y := My22) hown (mvT hZ (ww hw 140 rfl)) (mvT hZ (ww hw 141 rfl)) (own_selp (by decide) (mvT hZ (ww hw 54 rfl)) (mvP hZ (ww hw 142 rfl)) (mvT hZ (ww hw 141 rfl))) (Cond.privateMethod_at (mvP hZ (ww hw 142 rfl) (args := #[]))) (mvT hZ (ww hw 144 rfl)) (by decide) (backOf (W := 0) (rm22_0 l Z a0 hw []  o0 o1 p1 p0 h23 n0 O23 S fc24 fc25 fc26 V23 g_o0 hU hN) hZ (ww hw 144 rfl) (ww hw 55 rfl) (by decide) (by decide)) (g := (mkF m 155 #[va o0, vi p2, vi r_11, vi (p2 >>> ((6 : Int32) &&& 31)), vi (p1 - (1 : Int32)), vl ((-1 : Int64) <<< (p2 &&& 0x3f).toInt64), ss, vl (((-1 : Int64).toUInt64 >>> ((-r_11) &&& 0x3f).toInt64.toUInt64).toInt64), ss, vi ((p2 >>> ((6 : Int32) &&& 31)) + (1 : Int32))] [(.ref o0)])) rfl (by rw [hml]; rfl) (Steps.refl _) (a := o0) (by rw [e23]; exact qa27) qb27 (argsL := []) (rest := []) (lenOf pd_7 rfl) rfl (by show 2 * 0 + _ ≤ _; exact Nat.le_of_eq rfl) (hb hby d20_155) (fun _ _ => ⟨rfl, e23, (by decide : 0 + 0 ≤ _), (by decide : 0 + 0 ≤ _)⟩)
          dsimp only [Pt.U, Pt.locs, Pt.cells, Pt.slots] at X27 l27 y27 z27 st27 hQ27
          subst l27 y27 z27
          obtain ⟨u_27, rfl, Nq27, Kc27, P0_27, P1_27, P2_27, np0_27⟩ := hQ27
          have N27 := Fr.app N23 Nq27
          have O27 := O23.keep Kc27 (allS g_o0 all0)
          have K27 : Keep h0 T27.heap [o0, o1] := K23.trans Kc27 (allS (Or.inl (List.mem_of_getElem? (i := 0) rfl)) all0)
          obtain ⟨cq28, qa28, qb28⟩ := P0_27.cell
          obtain ⟨_, _, ⟨T28, L28, k28, n28⟩, -, X28, ⟨Lc28, hQ28, l28, y28, z28⟩, st28⟩ := X27.privateBack hx (y := My12) hown (mvT hZ (ww hw 89 rfl)) (mvT hZ (ww hw 90 rfl)) (own_selp (by decide) (mvT hZ (ww hw 54 rfl)) (mvP hZ (ww hw 91 rfl)) (mvT hZ (ww hw 90 rfl))) (Cond.privateMethod_at (mvP hZ (ww hw 91 rfl) (args := #[]))) (mvT hZ (ww hw 93 rfl)) (by decide) (backOf (W := 0) (rm12_0 l Z a0 hw []  o0 o1 u_27 p0 T27.heap n0 O27 S) hZ (ww hw 93 rfl) (ww hw 55 rfl) (by decide) (by decide)) (g := (mkF m 159 #[va o0, vi p2, vi r_11, vi (p2 >>> ((6 : Int32) &&& 31)), vi (p1 - (1 : Int32)), vl ((-1 : Int64) <<< (p2 &&& 0x3f).toInt64), ss, vl (((-1 : Int64).toUInt64 >>> ((-r_11) &&& 0x3f).toInt64.toUInt64).toInt64), ss, vi ((p2 >>> ((6 : Int32) &&& 31)) + (1 : Int32))] [(.ref o0)])) rfl (by rw [hml]; rfl) (Steps.refl _) (a := o0) qa28 qb28 (argsL := []) (rest := []) (lenOf pd_7 rfl) rfl (by show 2 * 0 + _ ≤ _; exact Nat.le_of_eq rfl) (hb hby d20_159) (fun _ _ => ⟨rfl, rfl, (by decide : 0 + 0 ≤ _), (by decide : 0 + 0 ≤ _)⟩)
          dsimp only [Pt.U, Pt.locs, Pt.cells, Pt.slots] at X28 l28 y28 z28 st28 hQ28
          subst l28 y28 z28
          obtain ⟨rfl, Nq28, e28⟩ := hQ28
          have N28 := Fr.app N27 Nq28
          obtain ⟨fs, hr, hrun, hended, hW, hsame⟩ := X28.leave (v := none) (fun _ => rfl) hlk
          have fc29 := (V23.keep Kc27 (ninS (Ne.symm ne_o0_o1) nin0))
          refine ⟨_, _, pre_19 _ ?_, hrun, hended, _, _, rfl, ?_, ⟨_, rfl⟩, hW, hsame.mono (by decide) (by decide)⟩
          · show Steps p.tables e below (T17.setTop (mkF m 121 #[va o0, vi p2, vi r_11, vi (p2 >>> ((6 : Int32) &&& 31)), vi (p1 - (1 : Int32)), vl ((-1 : Int64) <<< (p2 &&& 0x3f).toInt64), ss, vl (((-1 : Int64).toUInt64 >>> ((-r_11) &&& 0x3f).toInt64.toUInt64).toInt64), ss, vi ((p2 >>> ((6 : Int32) &&& 31)) + (1 : Int32))] [(.int (p1 - (1 : Int32))), (.int ((p2 >>> ((6 : Int32) &&& 31)) + (1 : Int32)))])) _
            refine XS.icmpYes X17.here hx rfl (pc0 := 121) (pc' := 138) rfl (hb hby d20_121) rfl (flt hc18).2.1 (by decide) (by decide) ?_
            refine XS.aloadN X17.here hx rfl (hb hby d20_138) rfl rfl ?_
            refine st21 _ ?_
            refine XS.iload X21.here hx rfl (hb hby d20_142) rfl ?_
            refine Jvm.Free.XT.dup2 X21.here hx rfl (hb hby d20_144) rfl rfl rfl ?_
            refine st22 _ ?_
            refine XS.lload X21.here hx rfl (hb hby d20_146) rfl ?_
            refine X21.ldc2Long hx hown (mvT hZ (ww hw 122 rfl)) (g := (mkF m 148 #[va o0, vi p2, vi r_11, vi (p2 >>> ((6 : Int32) &&& 31)), vi (p1 - (1 : Int32)), vl ((-1 : Int64) <<< (p2 &&& 0x3f).toInt64), ss, vl (((-1 : Int64).toUInt64 >>> ((-r_11) &&& 0x3f).toInt64.toUInt64).toInt64), ss, vi ((p2 >>> ((6 : Int32) &&& 31)) + (1 : Int32))] [(.long (((-1 : Int64).toUInt64 >>> ((-r_11) &&& 0x3f).toInt64.toUInt64).toInt64)), (.long x22), (.int (p1 - (1 : Int32))), (.ref o1)])) rfl (hb hby d20_148) _ ?_
            show Steps p.tables e below (T21.setTop (mkF m 151 #[va o0, vi p2, vi r_11, vi (p2 >>> ((6 : Int32) &&& 31)), vi (p1 - (1 : Int32)), vl ((-1 : Int64) <<< (p2 &&& 0x3f).toInt64), ss, vl (((-1 : Int64).toUInt64 >>> ((-r_11) &&& 0x3f).toInt64.toUInt64).toInt64), ss, vi ((p2 >>> ((6 : Int32) &&& 31)) + (1 : Int32))] [(.long (-1)), (.long (((-1 : Int64).toUInt64 >>> ((-r_11) &&& 0x3f).toInt64.toUInt64).toInt64)), (.long x22), (.int (p1 - (1 : Int32))), (.ref o1)])) _
            refine XS.lxor X21.here hx rfl (hb hby d20_151) rfl ?_
            refine XS.land X21.here hx rfl (hb hby d20_152) rfl ?_
            refine st23 _ ?_
            refine XS.aloadN X23.here hx rfl (hb hby d20_154) rfl rfl ?_
            refine st27.trans ?_
            refine XS.aloadN X27.here hx rfl (hb hby d20_158) rfl rfl ?_
            refine st28.trans ?_
            exact X28.returnOut hx hrt (hb hby d20_162) hr
          · show Q20_0 Z  o0 o1 p1 p0 p2 p3 h0 n0 none T28.heap _
            rw [e28]; exact ⟨u_27, rfl, N28, K27, P0_27, P1_27, P2_27, fc29, np0_27⟩
  · obtain ⟨fs, hr, hrun, hended, hW, hsame⟩ := X4.leave (v := none) (fun _ => rfl) hlk
    refine ⟨_, _, pre_6 _ ?_, hrun, hended, _, _, rfl, ?_, ⟨_, rfl⟩, hW, hsame.mono (by decide) (by decide)⟩
    · show Steps p.tables e below (T4.setTop (mkF m 21 #[va o0, vi p2, vi p3, vi (p2 >>> ((6 : Int32) &&& 31)), uu, uu, uu, uu, uu, uu] [(.int p1), (.int (p2 >>> ((6 : Int32) &&& 31)))])) _
      refine XS.icmpNo X4.here hx rfl (hb hby d20_21) rfl (flt hc5).1 ?_
      exact X4.returnOut hx hrt (hb hby d20_24) hr
    · show Q20_0 Z  o0 o1 p1 p0 p2 p3 h0 n0 none T4.heap _
      rw [e4]; exact ⟨p1, rfl, N3, (Keep.refl _ _), E_o0, F_words_o0, F_wordsInUse_o0, V_o1, hU⟩
theorem d16_124 : decode prog_47_method_5_code 124 = .ok (.lload 5, 2) := by decide +kernel
theorem d16_126 : decode prog_47_method_5_code 126 = .ok (.iload 8, 2) := by decide +kernel
theorem d16_128 : decode prog_47_method_5_code 128 = .ok (.iload 7, 2) := by decide +kernel
theorem d16_130 : decode prog_47_method_5_code 130 = .ok (.isub, 1) := by decide +kernel
theorem d16_131 : decode prog_47_method_5_code 131 = .ok (.i2l, 1) := by decide +kernel
theorem d16_132 : decode prog_47_method_5_code 132 = .ok (.ladd, 1) := by decide +kernel
theorem d16_133 : decode prog_47_method_5_code 133 = .ok (.lstore 5, 2) := by decide +kernel
theorem d16_135 : decode prog_47_method_5_code 135 = .ok (.goto (-132), 3) := by decide +kernel
theorem d16_138 : decode prog_47_method_5_code 138 = .ok (.return_, 1) := by decide +kernel
theorem d16_0 : decode prog_47_method_5_code 0 = .ok (.lload_n 1, 1) := by decide +kernel
theorem d16_1 : decode prog_47_method_5_code 1 = .ok (.lstore 5, 2) := by decide +kernel
def Q16_0 (Z : State) (o0 : Addr) (o1 : Addr) (o2 : Addr) (o3 : Addr) (o4 : Addr) (o5 : Addr) (q0 : Int64) (p1 : Int32) (p2 : Int32) (p3 : Int32) (p4 : Int32) (p5 : Int32) (p7 : Int32) (p6 : Int32) (q8 : Int64) (h0 : Heap) (n0 : Nat) (v : Option Value) (h : Heap) (L : List Loc) : Prop := ∃ (hv : Int64), ∃ (u : Int32), v = none ∧ Fr n0 L ∧ Keep h0 h [o0, o4, o5] ∧ Exa Z h o0 sC0 ∧ Fld Z h o0 sC0 "held" "J" (.long hv) ∧ Fld Z h o0 sC0 "length" "I" (.int p1) ∧ Fld Z h o0 sC0 "pageSlots" "I" (.int p2) ∧ Fld Z h o0 sC0 "pages" "[Lcom/example/tributary/tributary/model/NodeHashes$Page;" (.ref o1) ∧ Fld Z h o0 sC0 "pagesMade" "I" (.int 1) ∧ Exa Z h o4 sC1 ∧ Fld Z h o4 sC1 "words" "[J" (.ref o5) ∧ Fld Z h o4 sC1 "wordsInUse" "I" (.int u) ∧ LA Z h o5 p6 ∧ RU u p6
theorem rm16_0i {p : Program} {l : Launch} {e : Env} {s : State} {m : MethodId} {below : List Frame} {meth : Method} {c : Code} {Z : State} {a0 : Array Value} {n0 : Nat} (hx : p.tables.exec = Jvm.exec) (hZ : Z.Warmed39 s.vm) (hby : c.code = prog_47_method_5_code) (hml : c.maxLocals = 11) (hown : s.vm.findClass sC0 = some m.cls) (hrt : meth.sig.returnType = none) (hlk : meth.locks = false) (hw : HW Z a0) (S : SF Z ) (o0 : Addr) (o1 : Addr) (o2 : Addr) (o3 : Addr) (o4 : Addr) (o5 : Addr) (p1 : Int32) (p2 : Int32) (p3 : Int32) (p4 : Int32) (p5 : Int32) (p7 : Int32) (p6 : Int32) (q8 : Int64) (fr5 : Int64) (st7 en8 : Int32) (ne_o0_o2 : o0 ≠ o2) (ne_o0_o4 : o0 ≠ o4) (ne_o0_o5 : o0 ≠ o5) (g_o0 : n0 ≤ o0) (hN : NW p6) (hU : RU p7 p6) (hen : en8.toInt ≤ 256) :
    ∀ (k : Nat) (i0 : Int32) (q0 : Int64) (T0 : State) (h0 : Heap) (locs : List Loc), Stand p l e ({ frames := 4, cells := 0, slots := 0, locals := 63 } : Room) s m #[(.ref o0), (.long 0), (.long q8)] below meth c T0 locs 0 0 → T0.heap = h0 → Fr n0 locs → Old Z n0 h0 → Exa Z h0 o0 sC0 → Fld Z h0 o0 sC0 "held" "J" (.long q0) → Fld Z h0 o0 sC0 "length" "I" (.int p1) → Fld Z h0 o0 sC0 "pageSlots" "I" (.int p2) → Fld Z h0 o0 sC0 "pages" "[Lcom/example/tributary/tributary/model/NodeHashes$Page;" (.ref o1) → Fld Z h0 o0 sC0 "pagesMade" "I" (.int 1) → Fld Z h0 o2 sC2 "held" "Ljava/util/BitSet;" (.ref o4) → Exa Z h0 o4 sC1 → Fld Z h0 o4 sC1 "words" "[J" (.ref o5) → Fld Z h0 o4 sC1 "wordsInUse" "I" (.int p7) → LA Z h0 o5 p6 → (i0.toInt = -1 ∨ 0 ≤ i0.toInt) → (i0.toInt < 0 ∨ en8.toInt - i0.toInt ≤ (k : Int)) →
    ∃ (T1 : State) (h2 : Heap) (L1 : List Loc) (i1 : Int32) (hv1 : Int64), Stand p l e ({ frames := 4, cells := 0, slots := 0, locals := 63 } : Room) s m #[(.ref o0), (.long 0), (.long q8)] below meth c T1 L1 0 0 ∧ T1.heap = h2 ∧ Fr n0 L1 ∧ Old Z n0 h2 ∧ Keep h0 h2 [o0] ∧ Fld Z h2 o0 sC0 "held" "J" (.long hv1) ∧ Fld Z h2 o0 sC0 "length" "I" (.int p1) ∧ Fld Z h2 o0 sC0 "pageSlots" "I" (.int p2) ∧ Fld Z h2 o0 sC0 "pages" "[Lcom/example/tributary/tributary/model/NodeHashes$Page;" (.ref o1) ∧ Fld Z h2 o0 sC0 "pagesMade" "I" (.int 1) ∧ ∀ t, Steps p.tables e below (T1.setTop (mkF m 112 #[va o0, vl 0, ss, vl q8, ss, vl fr5, ss, vi st7, vi en8, va o2, vi i1] [])) t → Steps p.tables e below (T0.setTop (mkF m 73 #[va o0, vl 0, ss, vl q8, ss, vl fr5, ss, vi st7, vi en8, va o2, vi i0] [])) t := by
  intro k
  induction k using Nat.strongRecOn with
  | ind k ih =>
  intro i0 q0 T0 h0 locs X0 e0 N0 O0 E_o0 F_held_o0 F_length_o0 F_pageSlots_o0 F_pages_o0 F_pagesMade_o0 F_held_o2 E_o4 F_words_o4 F_wordsInUse_o4 V_o5 hr0 hk
  have K0 : Keep h0 h0 [o0] := Keep.refl _ _
  have pre_2 : ∀ t, Steps p.tables e below (T0.setTop (mkF m 75 #[va o0, vl 0, ss, vl q8, ss, vl fr5, ss, vi st7, vi en8, va o2, vi i0] [(.int i0)])) t → Steps p.tables e below (T0.setTop (mkF m 73 #[va o0, vl 0, ss, vl q8, ss, vl fr5, ss, vi st7, vi en8, va o2, vi i0] [])) t := fun t k => (by
    show Steps p.tables e below (T0.setTop (mkF m 73 #[va o0, vl 0, ss, vl q8, ss, vl fr5, ss, vi st7, vi en8, va o2, vi i0] [])) _
    refine XS.iload X0.here hx rfl (hb hby d16_73) rfl ?_
    exact k)
  by_cases hc1 : i0 < (0 : Int32)
  · have pre_3 : ∀ t, Steps p.tables e below (T0.setTop (mkF m 112 #[va o0, vl 0, ss, vl q8, ss, vl fr5, ss, vi st7, vi en8, va o2, vi i0] [])) t → Steps p.tables e below (T0.setTop (mkF m 73 #[va o0, vl 0, ss, vl q8, ss, vl fr5, ss, vi st7, vi en8, va o2, vi i0] [])) t := fun t k => pre_2 t (by
      show Steps p.tables e below (T0.setTop (mkF m 75 #[va o0, vl 0, ss, vl q8, ss, vl fr5, ss, vi st7, vi en8, va o2, vi i0] [(.int i0)])) _
      refine XS.ifYes X0.here hx rfl (pc0 := 75) (pc' := 112) rfl (hb hby d16_75) rfl ((if0 _ _).trans (tlt hc1).1) (by decide) (by decide) ?_
      exact k)
    exact ⟨T0, h0, _, i0, q0, X0, e0, N0, O0, K0, F_held_o0, F_length_o0, F_pageSlots_o0, F_pages_o0, F_pagesMade_o0, pre_3⟩
  · have pre_4 : ∀ t, Steps p.tables e below (T0.setTop (mkF m 82 #[va o0, vl 0, ss, vl q8, ss, vl fr5, ss, vi st7, vi en8, va o2, vi i0] [(.int en8), (.int i0)])) t → Steps p.tables e below (T0.setTop (mkF m 73 #[va o0, vl 0, ss, vl q8, ss, vl fr5, ss, vi st7, vi en8, va o2, vi i0] [])) t := fun t k => pre_2 t (by
      show Steps p.tables e below (T0.setTop (mkF m 75 #[va o0, vl 0, ss, vl q8, ss, vl fr5, ss, vi st7, vi en8, va o2, vi i0] [(.int i0)])) _
      refine XS.ifNo X0.here hx rfl (hb hby d16_75) rfl ((if0 _ _).trans (flt hc1).1) ?_
      refine XS.iload X0.here hx rfl (hb hby d16_78) rfl ?_
      refine XS.iload X0.here hx rfl (hb hby d16_80) rfl ?_
      exact k)
    by_cases hc3 : i0 < en8
    · obtain ⟨T5, X5, e5, st5⟩ := getF X0 hx hZ hown (host := "") (Or.inl (ww hw 110 rfl)) Via.refl e0 F_held_o0 (g := (mkF m 87 #[va o0, vl 0, ss, vl q8, ss, vl fr5, ss, vi st7, vi en8, va o2, vi i0] [(.ref o0), (.ref o0)])) rfl rfl (hb hby d16_87)
      obtain ⟨T6, h6, X6, e6, W6, st6⟩ := putF X5 hx hZ hown (host := "") (Or.inl (ww hw 110 rfl)) Via.refl e5 F_held_o0 E_o0 (Or.inl (ww hw 111 rfl)) (ww hw 7 rfl) (ty := .long) (by decide) rfl rfl (g := (mkF m 92 #[va o0, vl 0, ss, vl q8, ss, vl fr5, ss, vi st7, vi en8, va o2, vi i0] [(.long (q0 - (1 : Int64))), (.ref o0)])) rfl rfl (hb hby d16_92)
      have Fw6 := F_held_o0.same W6
      have O6 := O0.wr W6 g_o0
      have K6 : Keep h0 h6 [o0] := K0.wr W6 (Or.inl (List.mem_of_getElem? (i := 0) rfl))
      have N6 := Fr.snoc X6 N0 g_o0
      have fc7 := (F_held_o2.other W6 (Or.inl (Ne.symm ne_o0_o2)))
      have st8 := own_getR X6 hx hZ hown (ww hw 83 rfl) e6 fc7 (g := (mkF m 97 #[va o0, vl 0, ss, vl q8, ss, vl fr5, ss, vi st7, vi en8, va o2, vi i0] [(.ref o2)])) rfl rfl (hb hby d16_97)
      have fc9 := (E_o4.wr W6)
      have fc10 := (F_words_o4.other W6 (Or.inl (Ne.symm ne_o0_o4)))
      have fc11 := (F_wordsInUse_o4.other W6 (Or.inl (Ne.symm ne_o0_o4)))
      have fc12 := (V_o5.other W6 (Ne.symm ne_o0_o5))
      obtain ⟨cq13, kq13, q13a, q13b, q13c⟩ := isOf hZ e6 fc9
      obtain ⟨_, _, ⟨T13, L13, k13, n13⟩, -, X13, ⟨Lc13, hQ13, l13, y13, z13⟩, st13⟩ := X6.virtualBack hx (y := My17) (z := My17) hown (mvT hZ (ww hw 117 rfl)) (mvT hZ (ww hw 118 rfl)) (notFace_of_selects (args := #[]) (mvT hZ (ww hw 120 rfl))) (mvT hZ (ww hw 120 rfl)) (mvT hZ (ww hw 119 rfl)) (by decide) (backOf (W := 0) (rm17_0 l Z a0 hw []  o4 o5 p7 p6 (i0 + (1 : Int32)) h6 n0 O6 S fc9 fc10 fc11 fc12 hU hN (own_fr hc1 hc3 hen)) hZ (ww hw 121 rfl) (ww hw 55 rfl) (by decide) (by decide)) q13a q13c (g := (mkF m 104 #[va o0, vl 0, ss, vl q8, ss, vl fr5, ss, vi st7, vi en8, va o2, vi i0] [(.int (i0 + (1 : Int32))), (.ref o4)])) rfl (by rw [hml]; rfl) (Steps.refl _) (argsL := [(.int (i0 + (1 : Int32)))]) (rest := []) (lenOf pd_4 rfl) rfl (by show 2 * 0 + _ ≤ _; exact Nat.le_of_eq rfl) (hb hby d16_104) (fun _ _ => ⟨rfl, e6, (by decide : 0 + 0 ≤ _), (by decide : 0 + 0 ≤ _)⟩)
      dsimp only [Pt.U, Pt.locs, Pt.cells, Pt.slots] at X13 l13 y13 z13 st13 hQ13
      subst l13 y13 z13
      obtain ⟨r_13, rfl, Nq13, e13, np0_13⟩ := hQ13
      have N13 := Fr.app N6 Nq13
      have pre_14 : ∀ t, Steps p.tables e below (T13.setTop (mkF m 73 #[va o0, vl 0, ss, vl q8, ss, vl fr5, ss, vi st7, vi en8, va o2, vi r_13] [])) t → Steps p.tables e below (T0.setTop (mkF m 73 #[va o0, vl 0, ss, vl q8, ss, vl fr5, ss, vi st7, vi en8, va o2, vi i0] [])) t := fun t k => pre_4 t (by
        show Steps p.tables e below (T0.setTop (mkF m 82 #[va o0, vl 0, ss, vl q8, ss, vl fr5, ss, vi st7, vi en8, va o2, vi i0] [(.int en8), (.int i0)])) _
        refine XS.icmpNo X0.here hx rfl (hb hby d16_82) rfl (tlt hc3).2.1 ?_
        refine XS.aloadN X0.here hx rfl (hb hby d16_85) rfl rfl ?_
        refine XS.dup X0.here hx rfl (hb hby d16_86) rfl rfl ?_
        refine st5 _ ?_
        refine XS.lconst X5.here hx rfl (hb hby d16_90) ?_
        refine XS.lsub X5.here hx rfl (hb hby d16_91) rfl ?_
        refine st6 _ ?_
        refine XS.aload X6.here hx rfl (hb hby d16_95) rfl rfl ?_
        show Steps p.tables e below (T6.setTop (mkF m 97 #[va o0, vl 0, ss, vl q8, ss, vl fr5, ss, vi st7, vi en8, va o2, vi i0] [(.ref o2)])) _
        refine st8 _ ?_
        refine XS.iload X6.here hx rfl (hb hby d16_100) rfl ?_
        refine XS.iconst X6.here hx rfl (hb hby d16_102) ?_
        refine XS.iadd X6.here hx rfl (hb hby d16_103) rfl ?_
        refine st13.trans ?_
        refine XS.istore X13.here hx rfl (hb hby d16_107) rfl (l' := #[va o0, vl 0, ss, vl q8, ss, vl fr5, ss, vi st7, vi en8, va o2, vi r_13]) rfl ?_
        refine XS.goto X13.here hx rfl (pc0 := 109) (pc' := 73) rfl (hb hby d16_109) (by decide) (by decide) ?_
        exact k)
      have fc15 := (E_o0.wr W6)
      have fc16 := (F_length_o0.other W6 (Or.inr (slot_ne (Or.inr (ww hw 16 rfl)) (Or.inl (ww hw 111 rfl)) (by decide) (t := .int) (t' := .long) (by decide) (by decide))))
      have fc17 := (F_pageSlots_o0.other W6 (Or.inr (slot_ne (Or.inr (ww hw 23 rfl)) (Or.inl (ww hw 111 rfl)) (by decide) (t := .int) (t' := .long) (by decide) (by decide))))
      have fc18 := (F_pages_o0.other W6 (Or.inr (slot_ne (Or.inr (ww hw 30 rfl)) (Or.inl (ww hw 111 rfl)) (by decide) (t := (.array (.object sC2))) (t' := .long) (by decide) (by decide))))
      have fc19 := (F_pagesMade_o0.other W6 (Or.inr (slot_ne (Or.inl (ww hw 38 rfl)) (Or.inl (ww hw 111 rfl)) (by decide) (t := .int) (t' := .long) (by decide) (by decide))))
      have hkz := own_fk hc1 hc3 hk
      obtain ⟨hrz, hkz2⟩ := own_fi hc1 hc3 hen hk np0_13
      obtain ⟨Tz, hz, Lz, iz, hvz, Xz, ez, Nz, Oz, Kz, Fz0, Fz1, Fz2, Fz3, Fz4, stz⟩ := ih (k - 1) (by omega) r_13 (q0 - (1 : Int64)) T13 h6 _ X13 e13 N13 O6 fc15 Fw6 fc16 fc17 fc18 fc19 fc7 fc9 fc10 fc11 fc12 hrz hkz2
      exact ⟨Tz, hz, Lz, iz, hvz, Xz, ez, Nz, Oz, K6.trans Kz (allS (Or.inl (List.mem_of_getElem? (i := 0) rfl)) all0), Fz0, Fz1, Fz2, Fz3, Fz4, fun t q => pre_14 t (stz t q)⟩
    · have pre_5 : ∀ t, Steps p.tables e below (T0.setTop (mkF m 112 #[va o0, vl 0, ss, vl q8, ss, vl fr5, ss, vi st7, vi en8, va o2, vi i0] [])) t → Steps p.tables e below (T0.setTop (mkF m 73 #[va o0, vl 0, ss, vl q8, ss, vl fr5, ss, vi st7, vi en8, va o2, vi i0] [])) t := fun t k => pre_4 t (by
        show Steps p.tables e below (T0.setTop (mkF m 82 #[va o0, vl 0, ss, vl q8, ss, vl fr5, ss, vi st7, vi en8, va o2, vi i0] [(.int en8), (.int i0)])) _
        refine XS.icmpYes X0.here hx rfl (pc0 := 82) (pc' := 112) rfl (hb hby d16_82) rfl (flt hc3).2.1 (by decide) (by decide) ?_
        exact k)
      exact ⟨T0, h0, _, i0, q0, X0, e0, N0, O0, K0, F_held_o0, F_length_o0, F_pageSlots_o0, F_pages_o0, F_pagesMade_o0, pre_5⟩
theorem rm16_0o {p : Program} {l : Launch} {e : Env} {s : State} {m : MethodId} {below : List Frame} {meth : Method} {c : Code} {Z : State} {a0 : Array Value} {n0 : Nat} (hx : p.tables.exec = Jvm.exec) (hZ : Z.Warmed39 s.vm) (hby : c.code = prog_47_method_5_code) (hml : c.maxLocals = 11) (hown : s.vm.findClass sC0 = some m.cls) (hrt : meth.sig.returnType = none) (hlk : meth.locks = false) (hw : HW Z a0) (S : SF Z ) (o0 : Addr) (o1 : Addr) (o2 : Addr) (o3 : Addr) (o4 : Addr) (o5 : Addr) (p1 : Int32) (p2 : Int32) (p3 : Int32) (p4 : Int32) (p5 : Int32) (p6 : Int32) (q8 : Int64) (ne_o0_o1 : o0 ≠ o1) (ne_o0_o2 : o0 ≠ o2) (ne_o0_o3 : o0 ≠ o3) (ne_o0_o4 : o0 ≠ o4) (ne_o0_o5 : o0 ≠ o5) (ne_o1_o4 : o1 ≠ o4) (ne_o1_o5 : o1 ≠ o5) (ne_o2_o4 : o2 ≠ o4) (ne_o2_o5 : o2 ≠ o5) (ne_o3_o4 : o3 ≠ o4) (ne_o3_o5 : o3 ≠ o5) (ne_o4_o5 : o4 ≠ o5) (g_o0 : n0 ≤ o0) (g_o4 : n0 ≤ o4) (g_o5 : n0 ≤ o5) (hP : NP p1 p2) (hT : FT q8 p2 p3) (hN : NW p6) :
    ∀ (k : Nat) (fr5 : Int64) (q0 : Int64) (p7 : Int32) (s7 s8 s9 s10 : Slot) (T0 : State) (h0 : Heap) (locs : List Loc), One s7 → One s8 → One s9 → One s10 → Stand p l e ({ frames := 4, cells := 0, slots := 0, locals := 63 } : Room) s m #[(.ref o0), (.long 0), (.long q8)] below meth c T0 locs 0 0 → T0.heap = h0 → Fr n0 locs → Old Z n0 h0 → Exa Z h0 o0 sC0 → Fld Z h0 o0 sC0 "held" "J" (.long q0) → Fld Z h0 o0 sC0 "length" "I" (.int p1) → Fld Z h0 o0 sC0 "pageSlots" "I" (.int p2) → Fld Z h0 o0 sC0 "pages" "[Lcom/example/tributary/tributary/model/NodeHashes$Page;" (.ref o1) → Fld Z h0 o0 sC0 "pagesMade" "I" (.int 1) → PA Z h0 o1 p3 [(p4, (.ref o2))] → Exa Z h0 o2 sC2 → Fld Z h0 o2 sC2 "hashes" "[B" (.ref o3) → Fld Z h0 o2 sC2 "held" "Ljava/util/BitSet;" (.ref o4) → BA Z h0 o3 p5 → Exa Z h0 o4 sC1 → Fld Z h0 o4 sC1 "words" "[J" (.ref o5) → Fld Z h0 o4 sC1 "wordsInUse" "I" (.int p7) → LA Z h0 o5 p6 → RU p7 p6 → (0 ≤ fr5.toInt ∧ fr5.toInt ≤ (q8).toInt) → ((q8).toInt - fr5.toInt ≤ (k : Int)) →
    ∃ s₂ o, Steps p.tables e below (T0.setTop (mkF m 3 #[va o0, vl 0, ss, vl q8, ss, vl fr5, ss, s7, s8, s9, s10] [])) s₂ ∧ s₂.status = .running ∧ Ended s₂ below o ∧ ∃ v L, o = .returned v ∧ Q16_0 Z  o0 o1 o2 o3 o4 o5 q0 p1 p2 p3 p4 p5 p7 p6 q8 h0 n0 v s₂.heap L ∧ FrameEnd s o s₂ L (({ frames := 4, cells := 0, slots := 0, locals := 63 } : Room)).cells (({ frames := 4, cells := 0, slots := 0, locals := 63 } : Room)).slots := by
  intro k
  induction k using Nat.strongRecOn with
  | ind k ih =>
  intro fr5 q0 p7 s7 s8 s9 s10 T0 h0 locs hs7 hs8 hs9 hs10 X0 e0 N0 O0 E_o0 F_held_o0 F_length_o0 F_pageSlots_o0 F_pages_o0 F_pagesMade_o0 V_o1 E_o2 F_hashes_o2 F_held_o2 V_o3 E_o4 F_words_o4 F_wordsInUse_o4 V_o5 hU hf hk
  have K0 : Keep h0 h0 [o0, o4, o5] := Keep.refl _ _
  have pre_2 : ∀ t, Steps p.tables e below (T0.setTop (mkF m 7 #[va o0, vl 0, ss, vl q8, ss, vl fr5, ss, s7, s8, s9, s10] [(.int (lcmpW fr5 q8))])) t → Steps p.tables e below (T0.setTop (mkF m 3 #[va o0, vl 0, ss, vl q8, ss, vl fr5, ss, s7, s8, s9, s10] [])) t := fun t k => (by
    show Steps p.tables e below (T0.setTop (mkF m 3 #[va o0, vl 0, ss, vl q8, ss, vl fr5, ss, s7, s8, s9, s10] [])) _
    refine XS.lload X0.here hx rfl (hb hby d16_3) rfl ?_
    refine XS.lloadN X0.here hx rfl (hb hby d16_5) rfl ?_
    refine XS.lcmp X0.here hx rfl (hb hby d16_6) rfl ?_
    exact k)
  by_cases hc1 : fr5 < q8
  · obtain ⟨T3, X3, e3, st3⟩ := getF X0 hx hZ hown (host := "") (Or.inl (ww hw 22 rfl)) Via.refl e0 F_pageSlots_o0 (g := (mkF m 13 #[va o0, vl 0, ss, vl q8, ss, vl fr5, ss, s7, s8, s9, s10] [(.ref o0), (.long fr5)])) rfl rfl (hb hby d16_13)
    have hc4 : ¬ ((p2.toInt64) = (0 : Int64)) := (own_p0 hP)
    obtain ⟨v23, hv23⟩ : ∃ z : Int32, z = ((own_lr fr5 (p2.toInt64)).toInt32) := ⟨_, rfl⟩
    obtain ⟨T5, X5, e5, st5⟩ := getF X3 hx hZ hown (host := "") (Or.inl (ww hw 22 rfl)) Via.refl e3 F_pageSlots_o0 (g := (mkF m 22 #[va o0, vl 0, ss, vl q8, ss, vl fr5, ss, vi v23, s8, s9, s10] [(.ref o0)])) rfl rfl (hb hby d16_22)
    obtain ⟨_, _, ⟨T6, L6, k6, n6⟩, -, X6, ⟨Lc6, hQ6, l6, y6, z6⟩, st6⟩ := Jvm.LawKit.callS X5 hx (y := My3) hown (mvT hZ (ww hw 18 rfl)) (mvT hZ (ww hw 19 rfl)) (mvT hZ (ww hw 20 rfl)) (mvT hZ (ww hw 21 rfl)) (by decide) (backOf (W := 0) (mg3_0 l Z a0 hw []  (p2.toInt64) ((v23.toInt64) + (q8 - fr5)) h0 n0 O0 S) hZ (ww hw 21 rfl) (ww hw 20 rfl) (by decide) (by decide)) (g := (mkF m 34 #[va o0, vl 0, ss, vl q8, ss, vl fr5, ss, vi v23, s8, s9, s10] [(.long ((v23.toInt64) + (q8 - fr5))), (.long (p2.toInt64))])) rfl (by rw [hml]; rfl) (argsL := [(.long (p2.toInt64)), (.long ((v23.toInt64) + (q8 - fr5)))]) (rest := []) (lenOf pd_0 rfl) rfl (by show 2 * 0 + _ ≤ _; exact Nat.le_of_eq rfl) (hb hby d16_34) (fun _ _ => ⟨rfl, e5, (by decide : 0 + 0 ≤ _), (by decide : 0 + 0 ≤ _)⟩)
    dsimp only [Pt.U, Pt.locs, Pt.cells, Pt.slots] at X6 l6 y6 z6 st6 hQ6
    subst l6 y6 z6
    obtain ⟨rfl, Nq6, e6⟩ := hQ6
    have N6 := Fr.app N0 Nq6
    obtain ⟨v24, hv24⟩ : ∃ z : Int32, z = ((own_minL (p2.toInt64) ((v23.toInt64) + (q8 - fr5))).toInt32) := ⟨_, rfl⟩
    obtain ⟨T7, X7, e7, st7⟩ := getF X6 hx hZ hown (host := "") (Or.inl (ww hw 29 rfl)) Via.refl e6 F_pages_o0 (g := (mkF m 41 #[va o0, vl 0, ss, vl q8, ss, vl fr5, ss, vi v23, vi v24, s9, s10] [(.ref o0)])) rfl rfl (hb hby d16_41)
    obtain ⟨T8, X8, e8, st8⟩ := getF X7 hx hZ hown (host := "") (Or.inl (ww hw 22 rfl)) Via.refl e7 F_pageSlots_o0 (g := (mkF m 47 #[va o0, vl 0, ss, vl q8, ss, vl fr5, ss, vi v23, vi v24, s9, s10] [(.ref o0), (.long fr5), (.ref o1)])) rfl rfl (hb hby d16_47)
    have pre_10 : ∀ t, Steps p.tables e below (T8.setTop (mkF m 53 #[va o0, vl 0, ss, vl q8, ss, vl fr5, ss, vi v23, vi v24, s9, s10] [(.int ((fr5 / (p2.toInt64)).toInt32)), (.ref o1)])) t → Steps p.tables e below (T0.setTop (mkF m 3 #[va o0, vl 0, ss, vl q8, ss, vl fr5, ss, s7, s8, s9, s10] [])) t := fun t k => pre_2 t (by
      show Steps p.tables e below (T0.setTop (mkF m 7 #[va o0, vl 0, ss, vl q8, ss, vl fr5, ss, s7, s8, s9, s10] [(.int (lcmpW fr5 q8))])) _
      refine XS.ifNo X0.here hx rfl (hb hby d16_7) rfl (own_lc_ltT hc1).2 ?_
      refine XS.lload X0.here hx rfl (hb hby d16_10) rfl ?_
      refine XS.aloadN X0.here hx rfl (hb hby d16_12) rfl rfl ?_
      refine st3 _ ?_
      refine XS.i2l X3.here hx rfl (hb hby d16_16) rfl ?_
      refine XS.lrem X3.here hx rfl (hb hby d16_17) rfl hc4 ?_
      refine XS.l2i X3.here hx rfl (hb hby d16_18) rfl ?_
      show Steps p.tables e below (T3.setTop (mkF m 19 #[va o0, vl 0, ss, vl q8, ss, vl fr5, ss, s7, s8, s9, s10] [(.int ((own_lr fr5 (p2.toInt64)).toInt32))])) _
      rw [← hv23]
      refine XS.istoreS X3.here hx rfl (hb hby d16_19) rfl rfl hs7 ?_
      show Steps p.tables e below (T3.setTop (mkF m 21 #[va o0, vl 0, ss, vl q8, ss, vl fr5, ss, vi v23, s8, s9, s10] [])) _
      refine XS.aloadN X3.here hx rfl (hb hby d16_21) rfl rfl ?_
      refine st5 _ ?_
      refine XS.i2l X5.here hx rfl (hb hby d16_25) rfl ?_
      refine XS.iload X5.here hx rfl (hb hby d16_26) rfl ?_
      refine XS.i2l X5.here hx rfl (hb hby d16_28) rfl ?_
      refine XS.lloadN X5.here hx rfl (hb hby d16_29) rfl ?_
      refine XS.lload X5.here hx rfl (hb hby d16_30) rfl ?_
      show Steps p.tables e below (T5.setTop (mkF m 32 #[va o0, vl 0, ss, vl q8, ss, vl fr5, ss, vi v23, s8, s9, s10] [(.long fr5), (.long q8), (.long (v23.toInt64)), (.long (p2.toInt64))])) _
      refine XS.lsub X5.here hx rfl (hb hby d16_32) rfl ?_
      refine XS.ladd X5.here hx rfl (hb hby d16_33) rfl ?_
      refine st6 _ ?_
      refine XS.l2i X6.here hx rfl (hb hby d16_37) rfl ?_
      show Steps p.tables e below (T6.setTop (mkF m 38 #[va o0, vl 0, ss, vl q8, ss, vl fr5, ss, vi v23, s8, s9, s10] [(.int ((own_minL (p2.toInt64) ((v23.toInt64) + (q8 - fr5))).toInt32))])) _
      rw [← hv24]
      refine XS.istoreS X6.here hx rfl (hb hby d16_38) rfl rfl hs8 ?_
      show Steps p.tables e below (T6.setTop (mkF m 40 #[va o0, vl 0, ss, vl q8, ss, vl fr5, ss, vi v23, vi v24, s9, s10] [])) _
      refine XS.aloadN X6.here hx rfl (hb hby d16_40) rfl rfl ?_
      refine st7 _ ?_
      refine XS.lload X7.here hx rfl (hb hby d16_44) rfl ?_
      refine XS.aloadN X7.here hx rfl (hb hby d16_46) rfl rfl ?_
      refine st8 _ ?_
      refine XS.i2l X8.here hx rfl (hb hby d16_50) rfl ?_
      refine XS.ldiv X8.here hx rfl (hb hby d16_51) rfl hc4 ?_
      show Steps p.tables e below (T8.setTop (mkF m 52 #[va o0, vl 0, ss, vl q8, ss, vl fr5, ss, vi v23, vi v24, s9, s10] [(.long (fr5 / (p2.toInt64))), (.ref o1)])) _
      refine XS.l2i X8.here hx rfl (hb hby d16_52) rfl ?_
      exact k)
    by_cases hc9 : ((fr5 / (p2.toInt64)).toInt32) = p4
    · have st11 := own_getR X8 hx hZ hown (ww hw 83 rfl) e8 F_held_o2 (g := (mkF m 63 #[va o0, vl 0, ss, vl q8, ss, vl fr5, ss, vi v23, vi v24, va o2, s10] [(.ref o2)])) rfl rfl (hb hby d16_63)
      have hse := own_fg hf hc1 hP hT hv23 hv24
      obtain ⟨cq12, kq12, q12a, q12b, q12c⟩ := isOf hZ e8 E_o4
      obtain ⟨_, _, ⟨T12, L12, k12, n12⟩, -, X12, ⟨Lc12, hQ12, l12, y12, z12⟩, st12⟩ := X8.virtualBack hx (y := My17) (z := My17) hown (mvT hZ (ww hw 117 rfl)) (mvT hZ (ww hw 118 rfl)) (notFace_of_selects (args := #[]) (mvT hZ (ww hw 120 rfl))) (mvT hZ (ww hw 120 rfl)) (mvT hZ (ww hw 119 rfl)) (by decide) (backOf (W := 0) (rm17_0 l Z a0 hw []  o4 o5 p7 p6 v23 h0 n0 O0 S E_o4 F_words_o4 F_wordsInUse_o4 V_o5 hU hN (own_ff hse)) hZ (ww hw 121 rfl) (ww hw 55 rfl) (by decide) (by decide)) q12a q12c (g := (mkF m 68 #[va o0, vl 0, ss, vl q8, ss, vl fr5, ss, vi v23, vi v24, va o2, s10] [(.int v23), (.ref o4)])) rfl (by rw [hml]; rfl) (Steps.refl _) (argsL := [(.int v23)]) (rest := []) (lenOf pd_4 rfl) rfl (by show 2 * 0 + _ ≤ _; exact Nat.le_of_eq rfl) (hb hby d16_68) (fun _ _ => ⟨rfl, e8, (by decide : 0 + 0 ≤ _), (by decide : 0 + 0 ≤ _)⟩)
      dsimp only [Pt.U, Pt.locs, Pt.cells, Pt.slots] at X12 l12 y12 z12 st12 hQ12
      subst l12 y12 z12
      obtain ⟨r_12, rfl, Nq12, e12, np0_12⟩ := hQ12
      have N12 := Fr.app N6 Nq12
      have pre_13 : ∀ t, Steps p.tables e below (T12.setTop (mkF m 73 #[va o0, vl 0, ss, vl q8, ss, vl fr5, ss, vi v23, vi v24, va o2, vi r_12] [])) t → Steps p.tables e below (T0.setTop (mkF m 3 #[va o0, vl 0, ss, vl q8, ss, vl fr5, ss, s7, s8, s9, s10] [])) t := fun t k => pre_10 t (by
        show Steps p.tables e below (T8.setTop (mkF m 53 #[va o0, vl 0, ss, vl q8, ss, vl fr5, ss, vi v23, vi v24, s9, s10] [(.int ((fr5 / (p2.toInt64)).toInt32)), (.ref o1)])) _
        refine own_aaload X8 hx hZ e8 V_o1 (own_fj hf hc1 hP hT) (v := (.ref o2)) (getH_hit (own_fj hf hc1 hP hT).1 hc9) (g := (mkF m 53 #[va o0, vl 0, ss, vl q8, ss, vl fr5, ss, vi v23, vi v24, s9, s10] [(.int ((fr5 / (p2.toInt64)).toInt32)), (.ref o1)])) rfl rfl (hb hby d16_53) _ ?_
        refine XS.astoreS X8.here hx rfl (hb hby d16_54) rfl rfl rfl rfl hs9 ?_
        show Steps p.tables e below (T8.setTop (mkF m 56 #[va o0, vl 0, ss, vl q8, ss, vl fr5, ss, vi v23, vi v24, va o2, s10] [])) _
        refine XS.aload X8.here hx rfl (hb hby d16_56) rfl rfl ?_
        refine XS.ifnullNo X8.here hx rfl (hb hby d16_58) rfl ?_
        refine XS.aload X8.here hx rfl (hb hby d16_61) rfl rfl ?_
        refine st11 _ ?_
        refine XS.iload X8.here hx rfl (hb hby d16_66) rfl ?_
        refine st12.trans ?_
        refine XS.istoreS X12.here hx rfl (hb hby d16_71) rfl rfl hs10 ?_
        show Steps p.tables e below (T12.setTop (mkF m 73 #[va o0, vl 0, ss, vl q8, ss, vl fr5, ss, vi v23, vi v24, va o2, vi r_12] [])) _
        exact k)
      obtain ⟨T14, h14, L14, i14, hv14, X14, e14, N14, O14, Kc14, F0_14, F1_14, F2_14, F3_14, F4_14, st14⟩ := rm16_0i (a0 := a0) hx hZ hby hml hown hrt hlk hw  S o0 o1 o2 o3 o4 o5 p1 p2 p3 p4 p5 p7 p6 q8 fr5 v23 v24 ne_o0_o2 ne_o0_o4 ne_o0_o5 (g_o0) hN hU (own_fn hse) 257 _ _ _ _ _ X12 e12 N12 O0 E_o0 F_held_o0 F_length_o0 F_pageSlots_o0 F_pages_o0 F_pagesMade_o0 F_held_o2 E_o4 F_words_o4 F_wordsInUse_o4 V_o5 (own_fq hse np0_12) (own_fz hse np0_12)
      have K14 : Keep h0 h14 [o0, o4, o5] := K0.trans Kc14 (allS (Or.inl (List.mem_of_getElem? (i := 0) rfl)) all0)
      have fc15 := (F_held_o2.keep Kc14 (ninS (Ne.symm ne_o0_o2) nin0))
      have st16 := own_getR X14 hx hZ hown (ww hw 83 rfl) e14 fc15 (g := (mkF m 114 #[va o0, vl 0, ss, vl q8, ss, vl fr5, ss, vi v23, vi v24, va o2, vi i14] [(.ref o2)])) rfl rfl (hb hby d16_114)
      have fc17 := (E_o4.keep Kc14)
      have fc18 := (F_words_o4.keep Kc14 (ninS (Ne.symm ne_o0_o4) nin0))
      have fc19 := (F_wordsInUse_o4.keep Kc14 (ninS (Ne.symm ne_o0_o4) nin0))
      have fc20 := (V_o5.keep Kc14 (ninS (Ne.symm ne_o0_o5) nin0))
      obtain ⟨cq21, kq21, q21a, q21b, q21c⟩ := isOf hZ e14 fc17
      obtain ⟨_, _, ⟨T21, L21, k21, n21⟩, -, X21, ⟨Lc21, hQ21, l21, y21, z21⟩, st21⟩ := X14.virtualBack hx (y := (⟨sC1, "clear", "(II)V"⟩ : MethodName)) (z := (⟨sC1, "clear", "(II)V"⟩ : MethodName)) hown (mvT hZ (ww hw 132 rfl)) (mvT hZ (ww hw 133 rfl)) (notFace_of_selects (args := #[]) (mvT hZ (ww hw 135 rfl))) (mvT hZ (ww hw 135 rfl)) (mvT hZ (ww hw 134 rfl)) (by decide) (backOf (W := 0) (rm20_0 l Z a0 hw []  o4 o5 p7 p6 v23 v24 h14 n0 O14 S fc17 fc18 fc19 fc20 ne_o4_o5 g_o4 g_o5 hU hN (own_fc hse)) hZ (ww hw 136 rfl) (ww hw 55 rfl) (by decide) (by decide)) q21a q21c (g := (mkF m 121 #[va o0, vl 0, ss, vl q8, ss, vl fr5, ss, vi v23, vi v24, va o2, vi i14] [(.int v24), (.int v23), (.ref o4)])) rfl (by rw [hml]; rfl) (Steps.refl _) (argsL := [(.int v23), (.int v24)]) (rest := []) (lenOf pd_6 rfl) rfl (by show 2 * 0 + _ ≤ _; exact Nat.le_of_eq rfl) (hb hby d16_121) (fun _ _ => ⟨rfl, e14, (by decide : 0 + 0 ≤ _), (by decide : 0 + 0 ≤ _)⟩)
      dsimp only [Pt.U, Pt.locs, Pt.cells, Pt.slots] at X21 l21 y21 z21 st21 hQ21
      subst l21 y21 z21
      have fc22 := (E_o0.keep Kc14)
      have fc23 := (V_o1.keep Kc14 (ninS (Ne.symm ne_o0_o1) nin0))
      have fc24 := (E_o2.keep Kc14)
      have fc25 := (V_o3.keep Kc14 (ninS (Ne.symm ne_o0_o3) nin0))
      obtain ⟨u_21, rfl, Nq21, Kc21, P0_21, P1_21, P2_21, P3_21, np0_21⟩ := hQ21
      have N21 := Fr.app N14 Nq21
      have O21 := O14.keep Kc21 (allS g_o4 (allS g_o5 all0))
      have K21 : Keep h0 T21.heap [o0, o4, o5] := K14.trans Kc21 (allS (Or.inl (List.mem_of_getElem? (i := 1) rfl)) (allS (Or.inl (List.mem_of_getElem? (i := 2) rfl)) all0))
      obtain ⟨v25, hv25⟩ : ∃ z : Int64, z = (fr5 + ((v24 - v23).toInt64)) := ⟨_, rfl⟩
      have hse2 := own_fg2 hf hc1 hP hT hse hv25
      have pre_26 : ∀ t, Steps p.tables e below (T21.setTop (mkF m 3 #[va o0, vl 0, ss, vl q8, ss, vl v25, ss, vi v23, vi v24, va o2, vi i14] [])) t → Steps p.tables e below (T0.setTop (mkF m 3 #[va o0, vl 0, ss, vl q8, ss, vl fr5, ss, s7, s8, s9, s10] [])) t := fun t k => pre_13 t (by
        refine st14 _ ?_
        show Steps p.tables e below (T14.setTop (mkF m 112 #[va o0, vl 0, ss, vl q8, ss, vl fr5, ss, vi v23, vi v24, va o2, vi i14] [])) _
        refine XS.aload X14.here hx rfl (hb hby d16_112) rfl rfl ?_
        refine st16 _ ?_
        refine XS.iload X14.here hx rfl (hb hby d16_117) rfl ?_
        refine XS.iload X14.here hx rfl (hb hby d16_119) rfl ?_
        refine st21.trans ?_
        refine XS.lload X21.here hx rfl (hb hby d16_124) rfl ?_
        refine XS.iload X21.here hx rfl (hb hby d16_126) rfl ?_
        show Steps p.tables e below (T21.setTop (mkF m 128 #[va o0, vl 0, ss, vl q8, ss, vl fr5, ss, vi v23, vi v24, va o2, vi i14] [(.int v24), (.long fr5)])) _
        refine XS.iload X21.here hx rfl (hb hby d16_128) rfl ?_
        refine XS.isub X21.here hx rfl (hb hby d16_130) rfl ?_
        refine XS.i2l X21.here hx rfl (hb hby d16_131) rfl ?_
        refine XS.ladd X21.here hx rfl (hb hby d16_132) rfl ?_
        show Steps p.tables e below (T21.setTop (mkF m 133 #[va o0, vl 0, ss, vl q8, ss, vl fr5, ss, vi v23, vi v24, va o2, vi i14] [(.long (fr5 + ((v24 - v23).toInt64)))])) _
        rw [← hv25]
        refine XS.lstore X21.here hx rfl (hb hby d16_133) rfl (l' := #[va o0, vl 0, ss, vl q8, ss, vl v25, ss, vi v23, vi v24, va o2, vi i14]) rfl ?_
        refine XS.goto X21.here hx rfl (pc0 := 135) (pc' := 3) rfl (hb hby d16_135) (by decide) (by decide) ?_
        exact k)
      have fc27 := (fc22.keep Kc21)
      have fc28 := (F0_14.keep Kc21 (ninS ne_o0_o4 (ninS ne_o0_o5 nin0)))
      have fc29 := (F1_14.keep Kc21 (ninS ne_o0_o4 (ninS ne_o0_o5 nin0)))
      have fc30 := (F2_14.keep Kc21 (ninS ne_o0_o4 (ninS ne_o0_o5 nin0)))
      have fc31 := (F3_14.keep Kc21 (ninS ne_o0_o4 (ninS ne_o0_o5 nin0)))
      have fc32 := (F4_14.keep Kc21 (ninS ne_o0_o4 (ninS ne_o0_o5 nin0)))
      have fc33 := (fc23.keep Kc21 (ninS ne_o1_o4 (ninS ne_o1_o5 nin0)))
      have fc34 := (fc24.keep Kc21)
      have fc35 := ((F_hashes_o2.keep Kc14 (ninS (Ne.symm ne_o0_o2) nin0)).keep Kc21 (ninS ne_o2_o4 (ninS ne_o2_o5 nin0)))
      have fc36 := (fc15.keep Kc21 (ninS ne_o2_o4 (ninS ne_o2_o5 nin0)))
      have fc37 := (fc25.keep Kc21 (ninS ne_o3_o4 (ninS ne_o3_o5 nin0)))
      obtain ⟨hf2, hk2⟩ := own_fs hse2 hf hk
      have hk1 := own_fk1 hf hc1 hk
      obtain ⟨Uz, oz, stz, hrz, hez, vz, Lz, hoz, hQz, hFz⟩ := ih (k - 1) (by omega) v25 hv14 u_21 (vi v23) (vi v24) (va o2) (vi i14) T21 T21.heap _ (One.val rfl) (One.val rfl) (One.val rfl) (One.val rfl) X21 rfl N21 O21 fc27 fc28 fc29 fc30 fc31 fc32 fc33 fc34 fc35 fc36 fc37 P0_21 P1_21 P2_21 P3_21 np0_21 hf2 hk2
      obtain ⟨cz0, cz1, hvz, NLz, Kz, Pz0, Pz1, Pz2, Pz3, Pz4, Pz5, Pz6, Pz7, Pz8, Pz9, npz0⟩ := hQz
      exact ⟨Uz, oz, pre_26 _ stz, hrz, hez, vz, Lz, hoz, ⟨cz0, cz1, hvz, NLz, K21.trans Kz (allS (Or.inl (List.mem_of_getElem? (i := 0) rfl)) (allS (Or.inl (List.mem_of_getElem? (i := 1) rfl)) (allS (Or.inl (List.mem_of_getElem? (i := 2) rfl)) all0))), Pz0, Pz1, Pz2, Pz3, Pz4, Pz5, Pz6, Pz7, Pz8, Pz9, npz0⟩, hFz⟩
    · obtain ⟨v26, hv26⟩ : ∃ z : Int64, z = (fr5 + ((v24 - v23).toInt64)) := ⟨_, rfl⟩
      have hse := own_fg hf hc1 hP hT hv23 hv24
      have hse2 := own_fg2 hf hc1 hP hT hse hv26
      have pre_11 : ∀ t, Steps p.tables e below (T8.setTop (mkF m 3 #[va o0, vl 0, ss, vl q8, ss, vl v26, ss, vi v23, vi v24, .val .null, s10] [])) t → Steps p.tables e below (T0.setTop (mkF m 3 #[va o0, vl 0, ss, vl q8, ss, vl fr5, ss, s7, s8, s9, s10] [])) t := fun t k => pre_10 t (by
        show Steps p.tables e below (T8.setTop (mkF m 53 #[va o0, vl 0, ss, vl q8, ss, vl fr5, ss, vi v23, vi v24, s9, s10] [(.int ((fr5 / (p2.toInt64)).toInt32)), (.ref o1)])) _
        refine own_aaload X8 hx hZ e8 V_o1 (own_fj hf hc1 hP hT) (v := .null) (getH_miss (own_fj hf hc1 hP hT).1 hc9 rfl) (g := (mkF m 53 #[va o0, vl 0, ss, vl q8, ss, vl fr5, ss, vi v23, vi v24, s9, s10] [(.int ((fr5 / (p2.toInt64)).toInt32)), (.ref o1)])) rfl rfl (hb hby d16_53) _ ?_
        refine XS.astoreS X8.here hx rfl (hb hby d16_54) rfl rfl rfl rfl hs9 ?_
        show Steps p.tables e below (T8.setTop (mkF m 56 #[va o0, vl 0, ss, vl q8, ss, vl fr5, ss, vi v23, vi v24, .val .null, s10] [])) _
        refine XS.aload X8.here hx rfl (hb hby d16_56) rfl rfl ?_
        refine XS.ifnullYes X8.here hx rfl (pc0 := 58) (pc' := 124) rfl (hb hby d16_58) rfl (by decide) (by decide) ?_
        refine XS.lload X8.here hx rfl (hb hby d16_124) rfl ?_
        refine XS.iload X8.here hx rfl (hb hby d16_126) rfl ?_
        refine XS.iload X8.here hx rfl (hb hby d16_128) rfl ?_
        refine XS.isub X8.here hx rfl (hb hby d16_130) rfl ?_
        refine XS.i2l X8.here hx rfl (hb hby d16_131) rfl ?_
        show Steps p.tables e below (T8.setTop (mkF m 132 #[va o0, vl 0, ss, vl q8, ss, vl fr5, ss, vi v23, vi v24, .val .null, s10] [(.long ((v24 - v23).toInt64)), (.long fr5)])) _
        refine XS.ladd X8.here hx rfl (hb hby d16_132) rfl ?_
        show Steps p.tables e below (T8.setTop (mkF m 133 #[va o0, vl 0, ss, vl q8, ss, vl fr5, ss, vi v23, vi v24, .val .null, s10] [(.long (fr5 + ((v24 - v23).toInt64)))])) _
        rw [← hv26]
        refine XS.lstore X8.here hx rfl (hb hby d16_133) rfl (l' := #[va o0, vl 0, ss, vl q8, ss, vl v26, ss, vi v23, vi v24, .val .null, s10]) rfl ?_
        refine XS.goto X8.here hx rfl (pc0 := 135) (pc' := 3) rfl (hb hby d16_135) (by decide) (by decide) ?_
        exact k)
      obtain ⟨hf2, hk2⟩ := own_fs hse2 hf hk
      have hk1 := own_fk1 hf hc1 hk
      obtain ⟨Uz, oz, stz, hrz, hez, vz, Lz, hoz, hQz, hFz⟩ := ih (k - 1) (by omega) v26 q0 p7 (vi v23) (vi v24) (.val .null) s10 T8 h0 _ (One.val rfl) (One.val rfl) (One.val rfl) hs10 X8 e8 N6 O0 E_o0 F_held_o0 F_length_o0 F_pageSlots_o0 F_pages_o0 F_pagesMade_o0 V_o1 E_o2 F_hashes_o2 F_held_o2 V_o3 E_o4 F_words_o4 F_wordsInUse_o4 V_o5 hU hf2 hk2
      obtain ⟨cz0, cz1, hvz, NLz, Kz, Pz0, Pz1, Pz2, Pz3, Pz4, Pz5, Pz6, Pz7, Pz8, Pz9, npz0⟩ := hQz
      exact ⟨Uz, oz, pre_11 _ stz, hrz, hez, vz, Lz, hoz, ⟨cz0, cz1, hvz, NLz, K0.trans Kz (allS (Or.inl (List.mem_of_getElem? (i := 0) rfl)) (allS (Or.inl (List.mem_of_getElem? (i := 1) rfl)) (allS (Or.inl (List.mem_of_getElem? (i := 2) rfl)) all0))), Pz0, Pz1, Pz2, Pz3, Pz4, Pz5, Pz6, Pz7, Pz8, Pz9, npz0⟩, hFz⟩
  · obtain ⟨fs, hr, hrun, hended, hW, hsame⟩ := X0.leave (v := none) (fun _ => rfl) hlk
    refine ⟨_, _, pre_2 _ ?_, hrun, hended, _, _, rfl, ?_, ⟨_, rfl⟩, hW, hsame.mono (by decide) (by decide)⟩
    · show Steps p.tables e below (T0.setTop (mkF m 7 #[va o0, vl 0, ss, vl q8, ss, vl fr5, ss, s7, s8, s9, s10] [(.int (lcmpW fr5 q8))])) _
      refine XS.ifYes X0.here hx rfl (pc0 := 7) (pc' := 138) rfl (hb hby d16_7) rfl (own_lc_ltF hc1).2 (by decide) (by decide) ?_
      exact X0.returnOut hx hrt (hb hby d16_138) hr
    · show Q16_0 Z  o0 o1 o2 o3 o4 o5 q0 p1 p2 p3 p4 p5 p7 p6 q8 h0 n0 none T0.heap _
      rw [e0]; exact ⟨q0, p7, rfl, N0, (Keep.refl _ _), E_o0, F_held_o0, F_length_o0, F_pageSlots_o0, F_pages_o0, F_pagesMade_o0, E_o4, F_words_o4, F_wordsInUse_o4, V_o5, hU⟩
theorem rm16_0 (l : Launch) (Z : State) (a0 : Array Value) (hw : HW Z a0) (ws : List Jvm.Cond) (o0 : Addr) (o1 : Addr) (o2 : Addr) (o3 : Addr) (o4 : Addr) (o5 : Addr) (q0 : Int64) (p1 : Int32) (p2 : Int32) (p3 : Int32) (p4 : Int32) (p5 : Int32) (p7 : Int32) (p6 : Int32) (q8 : Int64) (h0 : Heap) (n0 : Nat) (O0 : Old Z n0 h0) (S : SF Z ) (E_o0 : Exa Z h0 o0 sC0) (F_held_o0 : Fld Z h0 o0 sC0 "held" "J" (.long q0)) (F_length_o0 : Fld Z h0 o0 sC0 "length" "I" (.int p1)) (F_pageSlots_o0 : Fld Z h0 o0 sC0 "pageSlots" "I" (.int p2)) (F_pages_o0 : Fld Z h0 o0 sC0 "pages" "[Lcom/example/tributary/tributary/model/NodeHashes$Page;" (.ref o1)) (F_pagesMade_o0 : Fld Z h0 o0 sC0 "pagesMade" "I" (.int 1)) (V_o1 : PA Z h0 o1 p3 [(p4, (.ref o2))]) (E_o2 : Exa Z h0 o2 sC2) (F_hashes_o2 : Fld Z h0 o2 sC2 "hashes" "[B" (.ref o3)) (F_held_o2 : Fld Z h0 o2 sC2 "held" "Ljava/util/BitSet;" (.ref o4)) (V_o3 : BA Z h0 o3 p5) (E_o4 : Exa Z h0 o4 sC1) (F_words_o4 : Fld Z h0 o4 sC1 "words" "[J" (.ref o5)) (F_wordsInUse_o4 : Fld Z h0 o4 sC1 "wordsInUse" "I" (.int p7)) (V_o5 : LA Z h0 o5 p6) (ne_o0_o1 : o0 ≠ o1) (ne_o0_o2 : o0 ≠ o2) (ne_o0_o3 : o0 ≠ o3) (ne_o0_o4 : o0 ≠ o4) (ne_o0_o5 : o0 ≠ o5) (ne_o1_o4 : o1 ≠ o4) (ne_o1_o5 : o1 ≠ o5) (ne_o2_o4 : o2 ≠ o4) (ne_o2_o5 : o2 ≠ o5) (ne_o3_o4 : o3 ≠ o4) (ne_o3_o5 : o3 ≠ o5) (ne_o4_o5 : o4 ≠ o5) (g_o0 : n0 ≤ o0) (g_o4 : n0 ≤ o4) (g_o5 : n0 ≤ o5) (hP : NP p1 p2) (hT : FT q8 p2 p3) (hN : NW p6) (hU : RU p7 p6) :
    Pay l Z My16 ws prog_47_method_5_code 11 none #[(.ref o0), (.long 0), (.long q8)] h0 ({ frames := 4, cells := 0, slots := 0, locals := 63 } : Room) (Q16_0 Z  o0 o1 o2 o3 o4 o5 q0 p1 p2 p3 p4 p5 p7 p6 q8 h0 n0) := by
  refine own_body (plainFor_of_name pn_1) (L0 := #[va o0, vl 0, ss, vl q8, ss, uu, uu, uu, uu, uu, uu]) (fun _ => by first | rfl | (simp [entryFrame, mkF, argsToLocals, Value.category]; done)) ?_
  intro p e s m below meth c s₁ hrt hlk hx hby hml hZ hown0 hnm X0 e0
  have hown : s.vm.findClass sC0 = some m.cls := hown0
  have N0 := Fr.nil n0
  have K0 : Keep h0 h0 [o0, o4, o5] := Keep.refl _ _
  have pre_1 : ∀ t, Steps p.tables e below (s₁.setTop (mkF m 3 #[va o0, vl 0, ss, vl q8, ss, vl 0, ss, uu, uu, uu, uu] [])) t → Steps p.tables e below (s₁.setTop (mkF m 0 #[va o0, vl 0, ss, vl q8, ss, uu, uu, uu, uu, uu, uu] [])) t := fun t k => (by
    show Steps p.tables e below (s₁.setTop (mkF m 0 #[va o0, vl 0, ss, vl q8, ss, uu, uu, uu, uu, uu, uu] [])) _
    refine XS.lloadN X0.here hx rfl (hb hby d16_0) rfl ?_
    refine XS.lstore X0.here hx rfl (hb hby d16_1) rfl (l' := #[va o0, vl 0, ss, vl q8, ss, vl 0, ss, uu, uu, uu, uu]) rfl ?_
    exact k)
  obtain ⟨U, o, st, rest⟩ := rm16_0o (a0 := a0) hx hZ hby hml hown hrt hlk hw  S o0 o1 o2 o3 o4 o5 p1 p2 p3 p4 p5 p6 q8 ne_o0_o1 ne_o0_o2 ne_o0_o3 ne_o0_o4 ne_o0_o5 ne_o1_o4 ne_o1_o5 ne_o2_o4 ne_o2_o5 ne_o3_o4 ne_o3_o5 ne_o4_o5 g_o0 g_o4 g_o5 hP hT hN (q8).toInt.toNat (0 : Int64) q0 p7 .unset .unset .unset .unset _ h0 _ One.u One.u One.u One.u X0 e0 N0 O0 E_o0 F_held_o0 F_length_o0 F_pageSlots_o0 F_pages_o0 F_pagesMade_o0 V_o1 E_o2 F_hashes_o2 F_held_o2 V_o3 E_o4 F_words_o4 F_wordsInUse_o4 V_o5 hU (own_f0 hT) (own_f1 hT)
  exact ⟨U, o, pre_1 _ st, rest⟩
theorem pd_11 : parseMethodDescriptor "(JJ)V" = some ⟨[.long, .long], none⟩ := by decide +kernel
def Q0 (n0 : Nat) (v : Option Value) (h : Heap) (L : List Loc) : Prop := v = (some (.int (1 : Int32))) ∧ Fr n0 L
theorem rm0 (l : Launch) (Z : State) (a0 : Array Value) (hw : HW Z a0) (ws : List Jvm.Cond) (h0 : Heap) (n0 : Nat) (O0 : Old Z n0 h0) (S : SF Z ) (p0 : Int32) (p1 : Int64) (p2 : Int64) (p3 : Int64) (p4 : Int32) :
    Pay l Z x ws code maxLocals ret #[(.int p0), (.long p1), (.long p2), (.long p3), (.int p4)] h0 room_1 (Q0 n0) := by
  refine own_body (plainFor_of_name pn_0) (L0 := #[vi p0, vl p1, ss, vl p2, ss, vl p3, ss, vi p4, uu, uu, uu, uu, uu, uu, uu, uu, uu, uu, uu, uu, uu, uu, uu, uu, uu, uu, uu, uu, uu, uu, uu, uu, uu, uu]) (fun _ => by first | (simp [entryFrame, mkF, argsToLocals, Value.category, maxLocals, vl, vi, va, ss, uu]; done) | rfl) ?_
  intro p e s m below meth c s₁ hrt hlk hx hby hml hZ hown0 hnm X0 e0
  have hown : s.vm.findClass "com/example/tributary/tributary/model/NodeHashesBytesPinLaw" = some m.cls := hown0
  have N0 := Fr.nil n0
  have K0 : Keep h0 h0 [] := Keep.refl _ _
  obtain ⟨v0, hv0⟩ : ∃ z : Int32, z = (p0 &&& (63 : Int32)) := ⟨_, rfl⟩
  obtain ⟨v1, hv1⟩ : ∃ z : Int64, z = ((p1 &&& (65535 : Int64)) + (1 : Int64)) := ⟨_, rfl⟩
  have hc1 : ¬ (v1 = (0 : Int64)) := (own_L0 (own_LS hv1))
  obtain ⟨v2, hv2⟩ : ∃ z : Int64, z = (own_lr (p2 &&& (9223372036854775807 : Int64)) v1) := ⟨_, rfl⟩
  obtain ⟨v3, hv3⟩ : ∃ z : Int64, z = (own_lr (p3 &&& (9223372036854775807 : Int64)) v1) := ⟨_, rfl⟩
  have pre_3 : ∀ t, Steps p.tables e below (s₁.setTop (mkF m 40 #[vi p0, vl p1, ss, vl p2, ss, vl p3, ss, vi p4, vi v0, vl v1, ss, vl v2, ss, vl v3, ss, uu, uu, uu, uu, uu, uu, uu, uu, uu, uu, uu, uu, uu, uu, uu, uu, uu, uu, uu] [(.int (p4 &&& (1 : Int32)))])) t → Steps p.tables e below (s₁.setTop (mkF m 0 #[vi p0, vl p1, ss, vl p2, ss, vl p3, ss, vi p4, uu, uu, uu, uu, uu, uu, uu, uu, uu, uu, uu, uu, uu, uu, uu, uu, uu, uu, uu, uu, uu, uu, uu, uu, uu, uu] [])) t := fun t k => (by
    show Steps p.tables e below (s₁.setTop (mkF m 0 #[vi p0, vl p1, ss, vl p2, ss, vl p3, ss, vi p4, uu, uu, uu, uu, uu, uu, uu, uu, uu, uu, uu, uu, uu, uu, uu, uu, uu, uu, uu, uu, uu, uu, uu, uu, uu, uu] [])) _
    refine XS.iloadN X0.here hx rfl (hb hby at_0) rfl ?_
    refine XS.bipush X0.here hx rfl (hb hby at_1) ?_
    refine XS.iand X0.here hx rfl (hb hby at_3) rfl ?_
    show Steps p.tables e below (s₁.setTop (mkF m 4 #[vi p0, vl p1, ss, vl p2, ss, vl p3, ss, vi p4, uu, uu, uu, uu, uu, uu, uu, uu, uu, uu, uu, uu, uu, uu, uu, uu, uu, uu, uu, uu, uu, uu, uu, uu, uu, uu] [(.int (p0 &&& (63 : Int32)))])) _
    rw [← hv0]
    refine XS.istore X0.here hx rfl (hb hby at_4) rfl (l' := #[vi p0, vl p1, ss, vl p2, ss, vl p3, ss, vi p4, vi v0, uu, uu, uu, uu, uu, uu, uu, uu, uu, uu, uu, uu, uu, uu, uu, uu, uu, uu, uu, uu, uu, uu, uu, uu, uu]) rfl ?_
    refine XS.lloadN X0.here hx rfl (hb hby at_6) rfl ?_
    refine X0.ldc2Long hx hown (mvT hZ (ww hw 0 rfl)) (g := (mkF m 7 #[vi p0, vl p1, ss, vl p2, ss, vl p3, ss, vi p4, vi v0, uu, uu, uu, uu, uu, uu, uu, uu, uu, uu, uu, uu, uu, uu, uu, uu, uu, uu, uu, uu, uu, uu, uu, uu, uu] [(.long p1)])) rfl (hb hby at_7) _ ?_
    refine XS.land X0.here hx rfl (hb hby at_10) rfl ?_
    refine XS.lconst X0.here hx rfl (hb hby at_11) ?_
    refine XS.ladd X0.here hx rfl (hb hby at_12) rfl ?_
    show Steps p.tables e below (s₁.setTop (mkF m 13 #[vi p0, vl p1, ss, vl p2, ss, vl p3, ss, vi p4, vi v0, uu, uu, uu, uu, uu, uu, uu, uu, uu, uu, uu, uu, uu, uu, uu, uu, uu, uu, uu, uu, uu, uu, uu, uu, uu] [(.long ((p1 &&& (65535 : Int64)) + (1 : Int64)))])) _
    rw [← hv1]
    refine XS.lstore X0.here hx rfl (hb hby at_13) rfl (l' := #[vi p0, vl p1, ss, vl p2, ss, vl p3, ss, vi p4, vi v0, vl v1, ss, uu, uu, uu, uu, uu, uu, uu, uu, uu, uu, uu, uu, uu, uu, uu, uu, uu, uu, uu, uu, uu, uu, uu]) rfl ?_
    refine XS.lloadN X0.here hx rfl (hb hby at_15) rfl ?_
    refine X0.ldc2Long hx hown (mvT hZ (ww hw 1 rfl)) (g := (mkF m 16 #[vi p0, vl p1, ss, vl p2, ss, vl p3, ss, vi p4, vi v0, vl v1, ss, uu, uu, uu, uu, uu, uu, uu, uu, uu, uu, uu, uu, uu, uu, uu, uu, uu, uu, uu, uu, uu, uu, uu] [(.long p2)])) rfl (hb hby at_16) _ ?_
    refine XS.land X0.here hx rfl (hb hby at_19) rfl ?_
    refine XS.lload X0.here hx rfl (hb hby at_20) rfl ?_
    refine XS.lrem X0.here hx rfl (hb hby at_22) rfl hc1 ?_
    show Steps p.tables e below (s₁.setTop (mkF m 23 #[vi p0, vl p1, ss, vl p2, ss, vl p3, ss, vi p4, vi v0, vl v1, ss, uu, uu, uu, uu, uu, uu, uu, uu, uu, uu, uu, uu, uu, uu, uu, uu, uu, uu, uu, uu, uu, uu, uu] [(.long (own_lr (p2 &&& (9223372036854775807 : Int64)) v1))])) _
    rw [← hv2]
    refine XS.lstore X0.here hx rfl (hb hby at_23) rfl (l' := #[vi p0, vl p1, ss, vl p2, ss, vl p3, ss, vi p4, vi v0, vl v1, ss, vl v2, ss, uu, uu, uu, uu, uu, uu, uu, uu, uu, uu, uu, uu, uu, uu, uu, uu, uu, uu, uu, uu, uu]) rfl ?_
    refine XS.lload X0.here hx rfl (hb hby at_25) rfl ?_
    refine X0.ldc2Long hx hown (mvT hZ (ww hw 1 rfl)) (g := (mkF m 27 #[vi p0, vl p1, ss, vl p2, ss, vl p3, ss, vi p4, vi v0, vl v1, ss, vl v2, ss, uu, uu, uu, uu, uu, uu, uu, uu, uu, uu, uu, uu, uu, uu, uu, uu, uu, uu, uu, uu, uu] [(.long p3)])) rfl (hb hby at_27) _ ?_
    refine XS.land X0.here hx rfl (hb hby at_30) rfl ?_
    refine XS.lload X0.here hx rfl (hb hby at_31) rfl ?_
    refine XS.lrem X0.here hx rfl (hb hby at_33) rfl hc1 ?_
    show Steps p.tables e below (s₁.setTop (mkF m 34 #[vi p0, vl p1, ss, vl p2, ss, vl p3, ss, vi p4, vi v0, vl v1, ss, vl v2, ss, uu, uu, uu, uu, uu, uu, uu, uu, uu, uu, uu, uu, uu, uu, uu, uu, uu, uu, uu, uu, uu] [(.long (own_lr (p3 &&& (9223372036854775807 : Int64)) v1))])) _
    rw [← hv3]
    refine XS.lstore X0.here hx rfl (hb hby at_34) rfl (l' := #[vi p0, vl p1, ss, vl p2, ss, vl p3, ss, vi p4, vi v0, vl v1, ss, vl v2, ss, vl v3, ss, uu, uu, uu, uu, uu, uu, uu, uu, uu, uu, uu, uu, uu, uu, uu, uu, uu, uu, uu]) rfl ?_
    refine XS.iload X0.here hx rfl (hb hby at_36) rfl ?_
    refine XS.iconst X0.here hx rfl (hb hby at_38) ?_
    refine XS.iand X0.here hx rfl (hb hby at_39) rfl ?_
    exact k)
  by_cases hc2 : (p4 &&& (1 : Int32)) = (0 : Int32)
  · obtain ⟨T4, h4, k4, X4, e4, E4, A4, st4⟩ := newP X0 hx hZ (ww hw 2 rfl) e0 (g := (mkF m 52 #[vi p0, vl p1, ss, vl p2, ss, vl p3, ss, vi p4, vi v0, vl v1, ss, vl v2, ss, vl v3, ss, vi 0, uu, uu, uu, uu, uu, uu, uu, uu, uu, uu, uu, uu, uu, uu, uu, uu, uu, uu] [(.int 64)])) rfl (hb hby at_52) rfl (by decide) (cap := 64) (by decide) (by decide) (by decide) (by decide)
    obtain ⟨b4, qs4⟩ : ∃ z, z = h0.size := ⟨_, rfl⟩
    rw [← qs4] at A4 st4
    have g_b4 : n0 ≤ b4 := Nat.le_trans (own_old O0) (Nat.le_of_eq qs4.symm)
    have sz_b4 : h0.size ≤ b4 := Nat.le_trans K0.1 (Nat.le_of_eq qs4.symm)
    have O4 := O0.ext E4
    have K4 : Keep h0 h4 [] := K0.ext E4
    have V_b4 : BA Z h4 b4 (64 : Int32) := BA.new A4 (by decide)
    have pre_6 : ∀ t, Steps p.tables e below (T4.setTop (mkF m 62 #[vi p0, vl p1, ss, vl p2, ss, vl p3, ss, vi p4, vi v0, vl v1, ss, vl v2, ss, vl v3, ss, vi 0, va b4, uu, uu, uu, uu, uu, uu, uu, uu, uu, uu, uu, uu, uu, uu, uu, uu, uu] [(.int (lcmpW v1 (256 : Int64)))])) t → Steps p.tables e below (s₁.setTop (mkF m 0 #[vi p0, vl p1, ss, vl p2, ss, vl p3, ss, vi p4, uu, uu, uu, uu, uu, uu, uu, uu, uu, uu, uu, uu, uu, uu, uu, uu, uu, uu, uu, uu, uu, uu, uu, uu, uu, uu] [])) t := fun t k => pre_3 t (by
      show Steps p.tables e below (s₁.setTop (mkF m 40 #[vi p0, vl p1, ss, vl p2, ss, vl p3, ss, vi p4, vi v0, vl v1, ss, vl v2, ss, vl v3, ss, uu, uu, uu, uu, uu, uu, uu, uu, uu, uu, uu, uu, uu, uu, uu, uu, uu, uu, uu] [(.int (p4 &&& (1 : Int32)))])) _
      refine XS.ifYes X0.here hx rfl (pc0 := 40) (pc' := 47) rfl (hb hby at_40) rfl ((if0 _ _).trans (teq hc2).1) (by decide) (by decide) ?_
      refine XS.iconst X0.here hx rfl (hb hby at_47) ?_
      refine XS.istore X0.here hx rfl (hb hby at_48) rfl (l' := #[vi p0, vl p1, ss, vl p2, ss, vl p3, ss, vi p4, vi v0, vl v1, ss, vl v2, ss, vl v3, ss, vi 0, uu, uu, uu, uu, uu, uu, uu, uu, uu, uu, uu, uu, uu, uu, uu, uu, uu, uu]) rfl ?_
      refine XS.bipush X0.here hx rfl (hb hby at_50) ?_
      refine st4 _ ?_
      refine XS.astore X4.here hx rfl (hb hby at_54) rfl rfl (l' := #[vi p0, vl p1, ss, vl p2, ss, vl p3, ss, vi p4, vi v0, vl v1, ss, vl v2, ss, vl v3, ss, vi 0, va b4, uu, uu, uu, uu, uu, uu, uu, uu, uu, uu, uu, uu, uu, uu, uu, uu, uu]) rfl ?_
      refine XS.lload X4.here hx rfl (hb hby at_56) rfl ?_
      refine X4.ldc2Long hx hown (mvT hZ (ww hw 3 rfl)) (g := (mkF m 58 #[vi p0, vl p1, ss, vl p2, ss, vl p3, ss, vi p4, vi v0, vl v1, ss, vl v2, ss, vl v3, ss, vi 0, va b4, uu, uu, uu, uu, uu, uu, uu, uu, uu, uu, uu, uu, uu, uu, uu, uu, uu] [(.long v1)])) rfl (hb hby at_58) _ ?_
      show Steps p.tables e below (T4.setTop (mkF m 61 #[vi p0, vl p1, ss, vl p2, ss, vl p3, ss, vi p4, vi v0, vl v1, ss, vl v2, ss, vl v3, ss, vi 0, va b4, uu, uu, uu, uu, uu, uu, uu, uu, uu, uu, uu, uu, uu, uu, uu, uu, uu] [(.long 256), (.long v1)])) _
      refine XS.lcmp X4.here hx rfl (hb hby at_61) rfl ?_
      exact k)
    by_cases hc5 : (256 : Int64) < v1
    · obtain ⟨v4, hv4⟩ : ∃ z : Int64, z = (((v1 - (1 : Int64)) / (256 : Int64)) + (1 : Int64)) := ⟨_, rfl⟩
      obtain ⟨v5, hv5⟩ : ∃ z : Int64, z = ((((256 : Int64) * (v0.toInt64)) + (32 : Int64)) + (64 : Int64)) := ⟨_, rfl⟩
      have pre_8 : ∀ t, Steps p.tables e below (T4.setTop (mkF m 133 #[vi p0, vl p1, ss, vl p2, ss, vl p3, ss, vi p4, vi v0, vl v1, ss, vl v2, ss, vl v3, ss, vi 0, va b4, vl 256, ss, vl v4, ss, vl v5, ss, uu, uu, uu, uu, uu, uu, uu, uu, uu, uu, uu] [(.int (lcmpW (v2 / (256 : Int64)) (v3 / (256 : Int64))))])) t → Steps p.tables e below (s₁.setTop (mkF m 0 #[vi p0, vl p1, ss, vl p2, ss, vl p3, ss, vi p4, uu, uu, uu, uu, uu, uu, uu, uu, uu, uu, uu, uu, uu, uu, uu, uu, uu, uu, uu, uu, uu, uu, uu, uu, uu, uu] [])) t := fun t k => pre_6 t (by
        show Steps p.tables e below (T4.setTop (mkF m 62 #[vi p0, vl p1, ss, vl p2, ss, vl p3, ss, vi p4, vi v0, vl v1, ss, vl v2, ss, vl v3, ss, vi 0, va b4, uu, uu, uu, uu, uu, uu, uu, uu, uu, uu, uu, uu, uu, uu, uu, uu, uu] [(.int (lcmpW v1 (256 : Int64)))])) _
        refine XS.ifYes X4.here hx rfl (pc0 := 62) (pc' := 75) rfl (hb hby at_62) rfl (own_lc_gtT hc5).1 (by decide) (by decide) ?_
        refine X4.ldc2Long hx hown (mvT hZ (ww hw 3 rfl)) (g := (mkF m 75 #[vi p0, vl p1, ss, vl p2, ss, vl p3, ss, vi p4, vi v0, vl v1, ss, vl v2, ss, vl v3, ss, vi 0, va b4, uu, uu, uu, uu, uu, uu, uu, uu, uu, uu, uu, uu, uu, uu, uu, uu, uu] [])) rfl (hb hby at_75) _ ?_
        refine XS.lstore X4.here hx rfl (hb hby at_78) rfl (l' := #[vi p0, vl p1, ss, vl p2, ss, vl p3, ss, vi p4, vi v0, vl v1, ss, vl v2, ss, vl v3, ss, vi 0, va b4, vl 256, ss, uu, uu, uu, uu, uu, uu, uu, uu, uu, uu, uu, uu, uu, uu, uu]) rfl ?_
        refine XS.lload X4.here hx rfl (hb hby at_80) rfl ?_
        refine XS.lconst X4.here hx rfl (hb hby at_82) ?_
        refine XS.lsub X4.here hx rfl (hb hby at_83) rfl ?_
        refine X4.ldc2Long hx hown (mvT hZ (ww hw 3 rfl)) (g := (mkF m 84 #[vi p0, vl p1, ss, vl p2, ss, vl p3, ss, vi p4, vi v0, vl v1, ss, vl v2, ss, vl v3, ss, vi 0, va b4, vl 256, ss, uu, uu, uu, uu, uu, uu, uu, uu, uu, uu, uu, uu, uu, uu, uu] [(.long (v1 - (1 : Int64)))])) rfl (hb hby at_84) _ ?_
        refine XS.ldiv X4.here hx rfl (hb hby at_87) rfl (by decide) ?_
        show Steps p.tables e below (T4.setTop (mkF m 88 #[vi p0, vl p1, ss, vl p2, ss, vl p3, ss, vi p4, vi v0, vl v1, ss, vl v2, ss, vl v3, ss, vi 0, va b4, vl 256, ss, uu, uu, uu, uu, uu, uu, uu, uu, uu, uu, uu, uu, uu, uu, uu] [(.long ((v1 - (1 : Int64)) / (256 : Int64)))])) _
        refine XS.lconst X4.here hx rfl (hb hby at_88) ?_
        refine XS.ladd X4.here hx rfl (hb hby at_89) rfl ?_
        show Steps p.tables e below (T4.setTop (mkF m 90 #[vi p0, vl p1, ss, vl p2, ss, vl p3, ss, vi p4, vi v0, vl v1, ss, vl v2, ss, vl v3, ss, vi 0, va b4, vl 256, ss, uu, uu, uu, uu, uu, uu, uu, uu, uu, uu, uu, uu, uu, uu, uu] [(.long (((v1 - (1 : Int64)) / (256 : Int64)) + (1 : Int64)))])) _
        rw [← hv4]
        refine XS.lstore X4.here hx rfl (hb hby at_90) rfl (l' := #[vi p0, vl p1, ss, vl p2, ss, vl p3, ss, vi p4, vi v0, vl v1, ss, vl v2, ss, vl v3, ss, vi 0, va b4, vl 256, ss, vl v4, ss, uu, uu, uu, uu, uu, uu, uu, uu, uu, uu, uu, uu, uu]) rfl ?_
        refine XS.lload X4.here hx rfl (hb hby at_92) rfl ?_
        refine XS.iload X4.here hx rfl (hb hby at_94) rfl ?_
        refine XS.i2l X4.here hx rfl (hb hby at_96) rfl ?_
        refine XS.lmul X4.here hx rfl (hb hby at_97) rfl ?_
        refine XS.lload X4.here hx rfl (hb hby at_98) rfl ?_
        refine X4.ldc2Long hx hown (mvT hZ (ww hw 4 rfl)) (g := (mkF m 100 #[vi p0, vl p1, ss, vl p2, ss, vl p3, ss, vi p4, vi v0, vl v1, ss, vl v2, ss, vl v3, ss, vi 0, va b4, vl 256, ss, vl v4, ss, uu, uu, uu, uu, uu, uu, uu, uu, uu, uu, uu, uu, uu] [(.long 256), (.long ((256 : Int64) * (v0.toInt64)))])) rfl (hb hby at_100) _ ?_
        refine XS.ldiv X4.here hx rfl (hb hby at_103) rfl (by decide) ?_
        show Steps p.tables e below (T4.setTop (mkF m 104 #[vi p0, vl p1, ss, vl p2, ss, vl p3, ss, vi p4, vi v0, vl v1, ss, vl v2, ss, vl v3, ss, vi 0, va b4, vl 256, ss, vl v4, ss, uu, uu, uu, uu, uu, uu, uu, uu, uu, uu, uu, uu, uu] [(.long ((256 : Int64) / (8 : Int64))), (.long ((256 : Int64) * (v0.toInt64)))])) _
        rw [show (((256 : Int64) / (8 : Int64)) : Int64) = (32 : Int64) from by decide]
        refine XS.ladd X4.here hx rfl (hb hby at_104) rfl ?_
        refine X4.ldc2Long hx hown (mvT hZ (ww hw 5 rfl)) (g := (mkF m 105 #[vi p0, vl p1, ss, vl p2, ss, vl p3, ss, vi p4, vi v0, vl v1, ss, vl v2, ss, vl v3, ss, vi 0, va b4, vl 256, ss, vl v4, ss, uu, uu, uu, uu, uu, uu, uu, uu, uu, uu, uu, uu, uu] [(.long (((256 : Int64) * (v0.toInt64)) + (32 : Int64)))])) rfl (hb hby at_105) _ ?_
        refine XS.ladd X4.here hx rfl (hb hby at_108) rfl ?_
        show Steps p.tables e below (T4.setTop (mkF m 109 #[vi p0, vl p1, ss, vl p2, ss, vl p3, ss, vi p4, vi v0, vl v1, ss, vl v2, ss, vl v3, ss, vi 0, va b4, vl 256, ss, vl v4, ss, uu, uu, uu, uu, uu, uu, uu, uu, uu, uu, uu, uu, uu] [(.long ((((256 : Int64) * (v0.toInt64)) + (32 : Int64)) + (64 : Int64)))])) _
        rw [← hv5]
        refine XS.lstore X4.here hx rfl (hb hby at_109) rfl (l' := #[vi p0, vl p1, ss, vl p2, ss, vl p3, ss, vi p4, vi v0, vl v1, ss, vl v2, ss, vl v3, ss, vi 0, va b4, vl 256, ss, vl v4, ss, vl v5, ss, uu, uu, uu, uu, uu, uu, uu, uu, uu, uu, uu]) rfl ?_
        refine XS.lload X4.here hx rfl (hb hby at_111) rfl ?_
        refine X4.ldc2Long hx hown (mvT hZ (ww hw 3 rfl)) (g := (mkF m 113 #[vi p0, vl p1, ss, vl p2, ss, vl p3, ss, vi p4, vi v0, vl v1, ss, vl v2, ss, vl v3, ss, vi 0, va b4, vl 256, ss, vl v4, ss, vl v5, ss, uu, uu, uu, uu, uu, uu, uu, uu, uu, uu, uu] [(.long v1)])) rfl (hb hby at_113) _ ?_
        refine XS.lcmp X4.here hx rfl (hb hby at_116) rfl ?_
        refine XS.ifNo X4.here hx rfl (hb hby at_117) rfl (own_lc_gtT hc5).2 ?_
        refine XS.lload X4.here hx rfl (hb hby at_120) rfl ?_
        refine X4.ldc2Long hx hown (mvT hZ (ww hw 3 rfl)) (g := (mkF m 122 #[vi p0, vl p1, ss, vl p2, ss, vl p3, ss, vi p4, vi v0, vl v1, ss, vl v2, ss, vl v3, ss, vi 0, va b4, vl 256, ss, vl v4, ss, vl v5, ss, uu, uu, uu, uu, uu, uu, uu, uu, uu, uu, uu] [(.long v2)])) rfl (hb hby at_122) _ ?_
        refine XS.ldiv X4.here hx rfl (hb hby at_125) rfl (by decide) ?_
        show Steps p.tables e below (T4.setTop (mkF m 126 #[vi p0, vl p1, ss, vl p2, ss, vl p3, ss, vi p4, vi v0, vl v1, ss, vl v2, ss, vl v3, ss, vi 0, va b4, vl 256, ss, vl v4, ss, vl v5, ss, uu, uu, uu, uu, uu, uu, uu, uu, uu, uu, uu] [(.long (v2 / (256 : Int64)))])) _
        refine XS.lload X4.here hx rfl (hb hby at_126) rfl ?_
        refine X4.ldc2Long hx hown (mvT hZ (ww hw 3 rfl)) (g := (mkF m 128 #[vi p0, vl p1, ss, vl p2, ss, vl p3, ss, vi p4, vi v0, vl v1, ss, vl v2, ss, vl v3, ss, vi 0, va b4, vl 256, ss, vl v4, ss, vl v5, ss, uu, uu, uu, uu, uu, uu, uu, uu, uu, uu, uu] [(.long v3), (.long (v2 / (256 : Int64)))])) rfl (hb hby at_128) _ ?_
        refine XS.ldiv X4.here hx rfl (hb hby at_131) rfl (by decide) ?_
        refine XS.lcmp X4.here hx rfl (hb hby at_132) rfl ?_
        exact k)
      by_cases hc7 : (v2 / (256 : Int64)) = (v3 / (256 : Int64))
      · obtain ⟨T9, h9, X9, e9, E9, A9, D9, -, st9⟩ := newO X4 hx hZ hown (ww hw 6 rfl) (ww hw 7 rfl) (ww hw 8 rfl) e4 (g := (mkF m 143 #[vi p0, vl p1, ss, vl p2, ss, vl p3, ss, vi p4, vi v0, vl v1, ss, vl v2, ss, vl v3, ss, vi 0, va b4, vl 256, ss, vl v4, ss, vl v5, ss, vi 1, uu, uu, uu, uu, uu, uu, uu, uu, uu, uu] [])) rfl (hb hby at_143) (by decide) (by decide)
        obtain ⟨b9, qs9⟩ : ∃ z, z = h4.size := ⟨_, rfl⟩
        rw [← qs9] at A9 D9 st9
        have ne_b4_b9 : b4 ≠ b9 := Nat.ne_of_lt (Nat.lt_of_lt_of_le V_b4.lt (Nat.le_of_eq qs9.symm))
        have g_b9 : n0 ≤ b9 := Nat.le_trans (own_old O4) (Nat.le_of_eq qs9.symm)
        have sz_b9 : h0.size ≤ b9 := Nat.le_trans K4.1 (Nat.le_of_eq qs9.symm)
        have O9 := O4.ext E9
        have K9 : Keep h0 h9 [] := K4.ext E9
        have F_length_b9 : Fld Z h9 b9 sC0 "length" "I" (.int 0) := D9 (Or.inr (ww hw 16 rfl)) (ty := .int) (by decide)
        have F_pageSlots_b9 : Fld Z h9 b9 sC0 "pageSlots" "I" (.int 0) := D9 (Or.inr (ww hw 23 rfl)) (ty := .int) (by decide)
        have F_pages_b9 : Fld Z h9 b9 sC0 "pages" "[Lcom/example/tributary/tributary/model/NodeHashes$Page;" .null := D9 (Or.inr (ww hw 30 rfl)) (ty := (.array (.object sC2))) (by decide)
        have F_pagesMade_b9 : Fld Z h9 b9 sC0 "pagesMade" "I" (.int 0) := D9 (Or.inl (ww hw 38 rfl)) (ty := .int) (by decide)
        have F_held_b9 : Fld Z h9 b9 sC0 "held" "J" (.long 0) := D9 (Or.inl (ww hw 111 rfl)) (ty := .long) (by decide)
        have hS := own_LS hv1
        obtain ⟨_, _, ⟨T10, L10, k10, n10⟩, -, X10, ⟨Lc10, hQ10, l10, y10, z10⟩, st10⟩ := X9.specialBack hx (y := My1) rfl hown (mvT hZ (ww hw 9 rfl)) (mvT hZ (ww hw 10 rfl)) (mvT hZ (ww hw 11 rfl)) (by decide) (backOf (W := 1) (rm1_0 l Z a0 hw []  b9 v0 v1 h9 n0 O9 S A9 F_held_b9 F_length_b9 F_pageSlots_b9 F_pages_b9 F_pagesMade_b9 g_b9 hS) hZ (ww hw 11 rfl) (ww hw 8 rfl) (by decide) (by decide)) (g := (mkF m 151 #[vi p0, vl p1, ss, vl p2, ss, vl p3, ss, vi p4, vi v0, vl v1, ss, vl v2, ss, vl v3, ss, vi 0, va b4, vl 256, ss, vl v4, ss, vl v5, ss, vi 1, uu, uu, uu, uu, uu, uu, uu, uu, uu, uu] [(.long v1), (.int v0), (.ref b9), (.ref b9)])) rfl (by rw [hml]; rfl) (Steps.refl _) (a := b9) (argsL := [(.int v0), (.long v1)]) (rest := [(.ref b9)]) (lenOf pd_2 rfl) rfl (by show 2 * 0 + _ ≤ _; exact Nat.le_of_eq rfl) (hb hby at_151) (fun _ _ => ⟨rfl, e9, (by decide : 2 + 1 ≤ _), (by decide : 69 + 256 ≤ _)⟩)
        dsimp only [Pt.U, Pt.locs, Pt.cells, Pt.slots] at X10 l10 y10 z10 st10 hQ10
        subst l10 y10 z10
        have fc11 := (V_b4.ext E9)
        obtain ⟨b13_10, ps_10, np_10, rfl, Nq10, Kc10, P0_10, P1_10, P2_10, P3_10, P4_10, P5_10, P6_10, P7_10, np0_10⟩ := hQ10
        have N10 := Fr.app N0 Nq10
        have ne_b4_b13_10 : b4 ≠ b13_10 := Nat.ne_of_lt (Nat.lt_of_lt_of_le fc11.lt P7_10)
        have ne_b9_b13_10 : b9 ≠ b13_10 := Nat.ne_of_lt (Nat.lt_of_lt_of_le A9.lt P7_10)
        have g_b13_10 : n0 ≤ b13_10 := Nat.le_trans (own_old O9) P7_10
        have sz_b13_10 : h0.size ≤ b13_10 := Nat.le_trans K9.1 P7_10
        have O10 := O9.keep Kc10 (allS g_b9 all0)
        have K10 : Keep h0 T10.heap [] := K9.trans Kc10 (allS (Or.inr sz_b9) all0)
        have hIN := np0_10
        have hNP := own_LP (own_Ll hv0) hS hIN
        have hSa := own_LSL hS hIN (own_La hS hv2)
        have hSb := own_LSL hS hIN (own_La hS hv3)
        have hFT := own_LFT hS hIN
        obtain ⟨cq12, kq12, q12a, q12b, q12c⟩ := isOf hZ rfl P0_10
        obtain ⟨_, _, ⟨T12, L12, k12, n12⟩, -, X12, ⟨Lc12, hQ12, l12, y12, z12⟩, st12⟩ := X10.virtualBack hx (y := My5) (z := My5) hown (mvT hZ (ww hw 31 rfl)) (mvT hZ (ww hw 32 rfl)) (notFace_of_selects (args := #[]) (mvT hZ (ww hw 34 rfl))) (mvT hZ (ww hw 34 rfl)) (mvT hZ (ww hw 33 rfl)) (by decide) (backOf (W := 0) (rm5_0 l Z a0 hw []  b9 b13_10 (0 : Int64) v0 ps_10 np_10 T10.heap n0 O10 S P2_10 P3_10 P4_10 P5_10 P6_10) hZ (ww hw 35 rfl) (ww hw 8 rfl) (by decide) (by decide)) q12a q12c (g := (mkF m 158 #[vi p0, vl p1, ss, vl p2, ss, vl p3, ss, vi p4, vi v0, vl v1, ss, vl v2, ss, vl v3, ss, vi 0, va b4, vl 256, ss, vl v4, ss, vl v5, ss, vi 1, va b9, uu, uu, uu, uu, uu, uu, uu, uu, uu] [(.ref b9)])) rfl (by rw [hml]; rfl) (Steps.refl _) (argsL := []) (rest := []) (lenOf pd_3 rfl) rfl (by show 2 * 0 + _ ≤ _; exact Nat.le_of_eq rfl) (hb hby at_158) (fun _ _ => ⟨rfl, rfl, (by decide : 3 + 0 ≤ _), (by decide : 325 + 0 ≤ _)⟩)
        dsimp only [Pt.U, Pt.locs, Pt.cells, Pt.slots] at X12 l12 y12 z12 st12 hQ12
        subst l12 y12 z12
        obtain ⟨rfl, Nq12, e12⟩ := hQ12
        have N12 := Fr.app N10 Nq12
        obtain ⟨v6, hv6⟩ : ∃ z : Int64, z = (((np_10.toInt64) * (8 : Int64)) + ((0 : Int64) * ((((ps_10.toInt64) * (v0.toInt64)) + ((ps_10 / (8 : Int32)).toInt64)) + (64 : Int64)))) := ⟨_, rfl⟩
        have hc13 : v6 = (v4 * (8 : Int64)) := (own_Lb0 hS hIN hv6 (Or.inr ⟨hc5, hv4⟩))
        have fc14 := (fc11.keep Kc10 (ninS ne_b4_b9 nin0))
        obtain ⟨cq15, kq15, q15a, q15b, q15c⟩ := isOf hZ e12 P0_10
        obtain ⟨_, _, ⟨T15, L15, k15, n15⟩, -, X15, ⟨Lc15, hQ15, l15, y15, z15⟩, st15⟩ := X12.virtualBack hx (y := My6) (z := My6) hown (mvT hZ (ww hw 40 rfl)) (mvT hZ (ww hw 41 rfl)) (notFace_of_selects (args := #[]) (mvT hZ (ww hw 43 rfl))) (mvT hZ (ww hw 43 rfl)) (mvT hZ (ww hw 42 rfl)) (by decide) (backOf (W := 0) (rm6_0 l Z a0 hw []  b9 b13_10 b4 (0 : Int64) v0 ps_10 np_10 v2 T10.heap n0 O10 S P0_10 P1_10 P2_10 P3_10 P4_10 P5_10 P6_10 fc14 ne_b9_b13_10 (Ne.symm ne_b4_b9) (Ne.symm ne_b4_b13_10) g_b9 g_b13_10 hNP hSa) hZ (ww hw 44 rfl) (ww hw 8 rfl) (by decide) (by decide)) q15a q15c (g := (mkF m 188 #[vi p0, vl p1, ss, vl p2, ss, vl p3, ss, vi p4, vi v0, vl v1, ss, vl v2, ss, vl v3, ss, vi 0, va b4, vl 256, ss, vl v4, ss, vl v5, ss, vi 1, va b9, vl v6, ss, vi 1, uu, uu, uu, uu, uu, uu] [(.ref b4), (.long v2), (.ref b9)])) rfl (by rw [hml]; rfl) (Steps.refl _) (argsL := [(.long v2), (.ref b4)]) (rest := []) (lenOf pd_9 rfl) rfl (by show 2 * 0 + _ ≤ _; exact Nat.le_of_eq rfl) (hb hby at_188) (fun _ _ => ⟨rfl, e12, (by decide : 3 + 4 ≤ _), (by decide : 325 + 16137 ≤ _)⟩)
        dsimp only [Pt.U, Pt.locs, Pt.cells, Pt.slots] at X15 l15 y15 z15 st15 hQ15
        subst l15 y15 z15
        obtain ⟨b4_15, b3_9_15, b9_9_15, b3_10_10_9_15, hv_15, u_15, rfl, Nq15, Kc15, P0_15, P1_15, P2_15, P3_15, P4_15, P5_15, P6_15, P7_15, P8_15, P9_15, P10_15, P11_15, P12_15, P13_15, P14_15, P15_15, P16_15, P17_15, P18_15, P19_15, P20_15, P21_15, P22_15, P23_15, P24_15, np0_15⟩ := hQ15
        have N15 := Fr.app N12 Nq15
        have ne_b4_b4_15 : b4 ≠ b4_15 := Nat.ne_of_lt (Nat.lt_of_lt_of_le fc14.lt P15_15)
        have ne_b9_b4_15 : b9 ≠ b4_15 := Nat.ne_of_lt (Nat.lt_of_lt_of_le P0_10.lt P15_15)
        have ne_b13_10_b4_15 : b13_10 ≠ b4_15 := Nat.ne_of_lt (Nat.lt_of_lt_of_le P6_10.lt P15_15)
        have ne_b4_b3_9_15 : b4 ≠ b3_9_15 := Nat.ne_of_lt (Nat.lt_of_lt_of_le fc14.lt P16_15)
        have ne_b9_b3_9_15 : b9 ≠ b3_9_15 := Nat.ne_of_lt (Nat.lt_of_lt_of_le P0_10.lt P16_15)
        have ne_b13_10_b3_9_15 : b13_10 ≠ b3_9_15 := Nat.ne_of_lt (Nat.lt_of_lt_of_le P6_10.lt P16_15)
        have ne_b4_b9_9_15 : b4 ≠ b9_9_15 := Nat.ne_of_lt (Nat.lt_of_lt_of_le fc14.lt P17_15)
        have ne_b9_b9_9_15 : b9 ≠ b9_9_15 := Nat.ne_of_lt (Nat.lt_of_lt_of_le P0_10.lt P17_15)
        have ne_b13_10_b9_9_15 : b13_10 ≠ b9_9_15 := Nat.ne_of_lt (Nat.lt_of_lt_of_le P6_10.lt P17_15)
        have ne_b4_b3_10_10_9_15 : b4 ≠ b3_10_10_9_15 := Nat.ne_of_lt (Nat.lt_of_lt_of_le fc14.lt P18_15)
        have ne_b9_b3_10_10_9_15 : b9 ≠ b3_10_10_9_15 := Nat.ne_of_lt (Nat.lt_of_lt_of_le P0_10.lt P18_15)
        have ne_b13_10_b3_10_10_9_15 : b13_10 ≠ b3_10_10_9_15 := Nat.ne_of_lt (Nat.lt_of_lt_of_le P6_10.lt P18_15)
        have g_b4_15 : n0 ≤ b4_15 := Nat.le_trans (own_old O10) P15_15
        have sz_b4_15 : h0.size ≤ b4_15 := Nat.le_trans K10.1 P15_15
        have g_b3_9_15 : n0 ≤ b3_9_15 := Nat.le_trans (own_old O10) P16_15
        have sz_b3_9_15 : h0.size ≤ b3_9_15 := Nat.le_trans K10.1 P16_15
        have g_b9_9_15 : n0 ≤ b9_9_15 := Nat.le_trans (own_old O10) P17_15
        have sz_b9_9_15 : h0.size ≤ b9_9_15 := Nat.le_trans K10.1 P17_15
        have g_b3_10_10_9_15 : n0 ≤ b3_10_10_9_15 := Nat.le_trans (own_old O10) P18_15
        have sz_b3_10_10_9_15 : h0.size ≤ b3_10_10_9_15 := Nat.le_trans K10.1 P18_15
        have O15 := O10.keep Kc15 (allS g_b9 (allS g_b13_10 all0))
        have K15 : Keep h0 T15.heap [] := K10.trans Kc15 (allS (Or.inr sz_b9) (allS (Or.inr sz_b13_10) all0))
        obtain ⟨cq16, kq16, q16a, q16b, q16c⟩ := isOf hZ rfl P0_15
        obtain ⟨_, _, ⟨T16, L16, k16, n16⟩, -, X16, ⟨Lc16, hQ16, l16, y16, z16⟩, st16⟩ := X15.virtualBack hx (y := My5) (z := My5) hown (mvT hZ (ww hw 31 rfl)) (mvT hZ (ww hw 32 rfl)) (notFace_of_selects (args := #[]) (mvT hZ (ww hw 34 rfl))) (mvT hZ (ww hw 34 rfl)) (mvT hZ (ww hw 33 rfl)) (by decide) (backOf (W := 0) (rm5_1 l Z a0 hw []  b9 b13_10 b4_15 b3_9_15 b9_9_15 b3_10_10_9_15 hv_15 v0 ps_10 np_10 ((v2 / (ps_10.toInt64)).toInt32) (ps_10 * v0) u_15 (((ps_10 - (1 : Int32)) >>> ((6 : Int32) &&& 31)) + (1 : Int32)) T15.heap n0 O15 S P2_15 P3_15 P4_15 P5_15 P6_15) hZ (ww hw 35 rfl) (ww hw 8 rfl) (by decide) (by decide)) q16a q16c (g := (mkF m 193 #[vi p0, vl p1, ss, vl p2, ss, vl p3, ss, vi p4, vi v0, vl v1, ss, vl v2, ss, vl v3, ss, vi 0, va b4, vl 256, ss, vl v4, ss, vl v5, ss, vi 1, va b9, vl v6, ss, vi 1, uu, uu, uu, uu, uu, uu] [(.ref b9)])) rfl (by rw [hml]; rfl) (Steps.refl _) (argsL := []) (rest := []) (lenOf pd_3 rfl) rfl (by show 2 * 0 + _ ≤ _; exact Nat.le_of_eq rfl) (hb hby at_193) (fun _ _ => ⟨rfl, rfl, (by decide : 7 + 0 ≤ _), (by decide : 16462 + 0 ≤ _)⟩)
        dsimp only [Pt.U, Pt.locs, Pt.cells, Pt.slots] at X16 l16 y16 z16 st16 hQ16
        subst l16 y16 z16
        obtain ⟨rfl, Nq16, e16⟩ := hQ16
        have N16 := Fr.app N15 Nq16
        obtain ⟨v7, hv7⟩ : ∃ z : Int64, z = (((np_10.toInt64) * (8 : Int64)) + ((1 : Int64) * ((((ps_10.toInt64) * (v0.toInt64)) + ((ps_10 / (8 : Int32)).toInt64)) + (64 : Int64)))) := ⟨_, rfl⟩
        have hc17 : v7 = (v6 + v5) := (own_Lb1 hS hIN hNP hv6 hv7 hv5 (Or.inr ⟨hc5, rfl, rfl⟩))
        have fc18 := (fc14.keep Kc15 (ninS ne_b4_b9 (ninS ne_b4_b13_10 nin0)))
        obtain ⟨cq19, kq19, q19a, q19b, q19c⟩ := isOf hZ e16 P0_15
        obtain ⟨_, _, ⟨T19, L19, k19, n19⟩, -, X19, ⟨Lc19, hQ19, l19, y19, z19⟩, st19⟩ := X16.virtualBack hx (y := My6) (z := My6) hown (mvT hZ (ww hw 40 rfl)) (mvT hZ (ww hw 41 rfl)) (notFace_of_selects (args := #[]) (mvT hZ (ww hw 43 rfl))) (mvT hZ (ww hw 43 rfl)) (mvT hZ (ww hw 42 rfl)) (by decide) (backOf (W := 0) (rm6_1 l Z a0 hw []  b9 b13_10 b4_15 b3_9_15 b9_9_15 b3_10_10_9_15 b4 hv_15 v0 ps_10 np_10 ((v2 / (ps_10.toInt64)).toInt32) (ps_10 * v0) u_15 (((ps_10 - (1 : Int32)) >>> ((6 : Int32) &&& 31)) + (1 : Int32)) v3 T15.heap n0 O15 S P0_15 P1_15 P2_15 P3_15 P4_15 P5_15 P6_15 P7_15 P8_15 P9_15 P10_15 P11_15 P12_15 P13_15 P14_15 fc18 ne_b9_b3_9_15 ne_b9_b9_9_15 ne_b9_b3_10_10_9_15 ne_b13_10_b3_9_15 P19_15 P22_15 P23_15 (Ne.symm ne_b4_b3_9_15) P24_15 g_b9 g_b3_9_15 g_b9_9_15 g_b3_10_10_9_15 hNP hSb (own_Lj1 hS hIN (own_La hS hv2) (own_La hS hv3) (Or.inr ⟨hc5, hc7⟩)) rfl rfl np0_15) hZ (ww hw 44 rfl) (ww hw 8 rfl) (by decide) (by decide)) q19a q19c (g := (mkF m 263 #[vi p0, vl p1, ss, vl p2, ss, vl p3, ss, vi p4, vi v0, vl v1, ss, vl v2, ss, vl v3, ss, vi 0, va b4, vl 256, ss, vl v4, ss, vl v5, ss, vi 1, va b9, vl v6, ss, vi 1, vl v7, ss, uu, uu, uu, uu] [(.ref b4), (.long v3), (.ref b9)])) rfl (by rw [hml]; rfl) (Steps.refl _) (argsL := [(.long v3), (.ref b4)]) (rest := []) (lenOf pd_9 rfl) rfl (by show 2 * 0 + _ ≤ _; exact Nat.le_of_eq rfl) (hb hby at_263) (fun _ _ => ⟨rfl, e16, (by decide : 7 + 0 ≤ _), (by decide : 16462 + 0 ≤ _)⟩)
        dsimp only [Pt.U, Pt.locs, Pt.cells, Pt.slots] at X19 l19 y19 z19 st19 hQ19
        subst l19 y19 z19
        obtain ⟨hv_19, u_19, rfl, Nq19, Kc19, P0_19, P1_19, P2_19, P3_19, P4_19, P5_19, P6_19, P7_19, P8_19, P9_19, P10_19, np0_19⟩ := hQ19
        have N19 := Fr.app N16 Nq19
        have O19 := O15.keep Kc19 (allS g_b9 (allS g_b3_9_15 (allS g_b9_9_15 (allS g_b3_10_10_9_15 all0))))
        have K19 : Keep h0 T19.heap [] := K15.trans Kc19 (allS (Or.inr sz_b9) (allS (Or.inr sz_b3_9_15) (allS (Or.inr sz_b9_9_15) (allS (Or.inr sz_b3_10_10_9_15) all0))))
        have fc20 := (P6_15.keep Kc19 (ninS (Ne.symm ne_b9_b13_10) (ninS ne_b13_10_b3_9_15 (ninS ne_b13_10_b9_9_15 (ninS ne_b13_10_b3_10_10_9_15 nin0)))))
        obtain ⟨cq21, kq21, q21a, q21b, q21c⟩ := isOf hZ rfl P0_19
        obtain ⟨_, _, ⟨T21, L21, k21, n21⟩, -, X21, ⟨Lc21, hQ21, l21, y21, z21⟩, st21⟩ := X19.virtualBack hx (y := My5) (z := My5) hown (mvT hZ (ww hw 31 rfl)) (mvT hZ (ww hw 32 rfl)) (notFace_of_selects (args := #[]) (mvT hZ (ww hw 34 rfl))) (mvT hZ (ww hw 34 rfl)) (mvT hZ (ww hw 33 rfl)) (by decide) (backOf (W := 0) (rm5_1 l Z a0 hw []  b9 b13_10 b4_15 b3_9_15 b9_9_15 b3_10_10_9_15 hv_19 v0 ps_10 np_10 ((v2 / (ps_10.toInt64)).toInt32) (ps_10 * v0) u_19 (((ps_10 - (1 : Int32)) >>> ((6 : Int32) &&& 31)) + (1 : Int32)) T19.heap n0 O19 S P2_19 P3_19 P4_19 P5_19 fc20) hZ (ww hw 35 rfl) (ww hw 8 rfl) (by decide) (by decide)) q21a q21c (g := (mkF m 268 #[vi p0, vl p1, ss, vl p2, ss, vl p3, ss, vi p4, vi v0, vl v1, ss, vl v2, ss, vl v3, ss, vi 0, va b4, vl 256, ss, vl v4, ss, vl v5, ss, vi 1, va b9, vl v6, ss, vi 1, vl v7, ss, uu, uu, uu, uu] [(.ref b9)])) rfl (by rw [hml]; rfl) (Steps.refl _) (argsL := []) (rest := []) (lenOf pd_3 rfl) rfl (by show 2 * 0 + _ ≤ _; exact Nat.le_of_eq rfl) (hb hby at_268) (fun _ _ => ⟨rfl, rfl, (by decide : 7 + 0 ≤ _), (by decide : 16462 + 0 ≤ _)⟩)
        dsimp only [Pt.U, Pt.locs, Pt.cells, Pt.slots] at X21 l21 y21 z21 st21 hQ21
        subst l21 y21 z21
        obtain ⟨rfl, Nq21, e21⟩ := hQ21
        have N21 := Fr.app N19 Nq21
        obtain ⟨v8, hv8⟩ : ∃ z : Int64, z = (((np_10.toInt64) * (8 : Int64)) + ((1 : Int64) * ((((ps_10.toInt64) * (v0.toInt64)) + ((ps_10 / (8 : Int32)).toInt64)) + (64 : Int64)))) := ⟨_, rfl⟩
        obtain ⟨v9, hv9⟩ : ∃ z : Int64, z = (v6 + v5) := ⟨_, rfl⟩
        have hc22 : v8 = v9 := (own_Lb2 hS hIN hNP hv6 hv8 hv5 hv9 (Or.inr ⟨hc5, rfl, rfl⟩))
        obtain ⟨fs, hr, hrun, hended, hW, hsame⟩ := X21.leave (v := (some (.int 1))) (fun h => by rw [hrt] at h; cases h) hlk
        refine ⟨_, _, pre_8 _ ?_, hrun, hended, _, _, rfl, ?_, ⟨_, rfl⟩, hW, hsame.mono (by decide) (by decide)⟩
        · show Steps p.tables e below (T4.setTop (mkF m 133 #[vi p0, vl p1, ss, vl p2, ss, vl p3, ss, vi p4, vi v0, vl v1, ss, vl v2, ss, vl v3, ss, vi 0, va b4, vl 256, ss, vl v4, ss, vl v5, ss, uu, uu, uu, uu, uu, uu, uu, uu, uu, uu, uu] [(.int (lcmpW (v2 / (256 : Int64)) (v3 / (256 : Int64))))])) _
          refine XS.ifNo X4.here hx rfl (hb hby at_133) rfl (own_lc_eqT hc7).2 ?_
          refine XS.iconst X4.here hx rfl (hb hby at_136) ?_
          refine XS.goto X4.here hx rfl (pc0 := 137) (pc' := 141) rfl (hb hby at_137) (by decide) (by decide) ?_
          refine XS.istore X4.here hx rfl (hb hby at_141) rfl (l' := #[vi p0, vl p1, ss, vl p2, ss, vl p3, ss, vi p4, vi v0, vl v1, ss, vl v2, ss, vl v3, ss, vi 0, va b4, vl 256, ss, vl v4, ss, vl v5, ss, vi 1, uu, uu, uu, uu, uu, uu, uu, uu, uu, uu]) rfl ?_
          refine st9 _ ?_
          refine XS.dup X9.here hx rfl (hb hby at_146) rfl rfl ?_
          refine XS.iload X9.here hx rfl (hb hby at_147) rfl ?_
          refine XS.lload X9.here hx rfl (hb hby at_149) rfl ?_
          show Steps p.tables e below (T9.setTop (mkF m 151 #[vi p0, vl p1, ss, vl p2, ss, vl p3, ss, vi p4, vi v0, vl v1, ss, vl v2, ss, vl v3, ss, vi 0, va b4, vl 256, ss, vl v4, ss, vl v5, ss, vi 1, uu, uu, uu, uu, uu, uu, uu, uu, uu, uu] [(.long v1), (.int v0), (.ref b9), (.ref b9)])) _
          refine st10.trans ?_
          refine XS.astore X10.here hx rfl (hb hby at_154) rfl rfl (l' := #[vi p0, vl p1, ss, vl p2, ss, vl p3, ss, vi p4, vi v0, vl v1, ss, vl v2, ss, vl v3, ss, vi 0, va b4, vl 256, ss, vl v4, ss, vl v5, ss, vi 1, va b9, uu, uu, uu, uu, uu, uu, uu, uu, uu]) rfl ?_
          refine XS.aload X10.here hx rfl (hb hby at_156) rfl rfl ?_
          refine st12.trans ?_
          show Steps p.tables e below (T12.setTop (mkF m 161 #[vi p0, vl p1, ss, vl p2, ss, vl p3, ss, vi p4, vi v0, vl v1, ss, vl v2, ss, vl v3, ss, vi 0, va b4, vl 256, ss, vl v4, ss, vl v5, ss, vi 1, va b9, uu, uu, uu, uu, uu, uu, uu, uu, uu] [(.long (((np_10.toInt64) * (8 : Int64)) + ((0 : Int64) * ((((ps_10.toInt64) * (v0.toInt64)) + ((ps_10 / (8 : Int32)).toInt64)) + (64 : Int64)))))])) _
          rw [← hv6]
          refine XS.lstore X12.here hx rfl (hb hby at_161) rfl (l' := #[vi p0, vl p1, ss, vl p2, ss, vl p3, ss, vi p4, vi v0, vl v1, ss, vl v2, ss, vl v3, ss, vi 0, va b4, vl 256, ss, vl v4, ss, vl v5, ss, vi 1, va b9, vl v6, ss, uu, uu, uu, uu, uu, uu, uu]) rfl ?_
          refine XS.lload X12.here hx rfl (hb hby at_163) rfl ?_
          refine XS.lload X12.here hx rfl (hb hby at_165) rfl ?_
          refine X12.ldc2Long hx hown (mvT hZ (ww hw 4 rfl)) (g := (mkF m 167 #[vi p0, vl p1, ss, vl p2, ss, vl p3, ss, vi p4, vi v0, vl v1, ss, vl v2, ss, vl v3, ss, vi 0, va b4, vl 256, ss, vl v4, ss, vl v5, ss, vi 1, va b9, vl v6, ss, uu, uu, uu, uu, uu, uu, uu] [(.long v4), (.long v6)])) rfl (hb hby at_167) _ ?_
          refine XS.lmul X12.here hx rfl (hb hby at_170) rfl ?_
          refine XS.lcmp X12.here hx rfl (hb hby at_171) rfl ?_
          refine XS.ifNo X12.here hx rfl (hb hby at_172) rfl (own_lc_eqT hc13).2 ?_
          refine XS.iconst X12.here hx rfl (hb hby at_175) ?_
          show Steps p.tables e below (T12.setTop (mkF m 176 #[vi p0, vl p1, ss, vl p2, ss, vl p3, ss, vi p4, vi v0, vl v1, ss, vl v2, ss, vl v3, ss, vi 0, va b4, vl 256, ss, vl v4, ss, vl v5, ss, vi 1, va b9, vl v6, ss, uu, uu, uu, uu, uu, uu, uu] [(.int 1)])) _
          refine XS.goto X12.here hx rfl (pc0 := 176) (pc' := 180) rfl (hb hby at_176) (by decide) (by decide) ?_
          refine XS.istore X12.here hx rfl (hb hby at_180) rfl (l' := #[vi p0, vl p1, ss, vl p2, ss, vl p3, ss, vi p4, vi v0, vl v1, ss, vl v2, ss, vl v3, ss, vi 0, va b4, vl 256, ss, vl v4, ss, vl v5, ss, vi 1, va b9, vl v6, ss, vi 1, uu, uu, uu, uu, uu, uu]) rfl ?_
          refine XS.aload X12.here hx rfl (hb hby at_182) rfl rfl ?_
          refine XS.lload X12.here hx rfl (hb hby at_184) rfl ?_
          refine XS.aload X12.here hx rfl (hb hby at_186) rfl rfl ?_
          refine st15.trans ?_
          refine XS.aload X15.here hx rfl (hb hby at_191) rfl rfl ?_
          refine st16.trans ?_
          show Steps p.tables e below (T16.setTop (mkF m 196 #[vi p0, vl p1, ss, vl p2, ss, vl p3, ss, vi p4, vi v0, vl v1, ss, vl v2, ss, vl v3, ss, vi 0, va b4, vl 256, ss, vl v4, ss, vl v5, ss, vi 1, va b9, vl v6, ss, vi 1, uu, uu, uu, uu, uu, uu] [(.long (((np_10.toInt64) * (8 : Int64)) + ((1 : Int64) * ((((ps_10.toInt64) * (v0.toInt64)) + ((ps_10 / (8 : Int32)).toInt64)) + (64 : Int64)))))])) _
          show Steps p.tables e below (T16.setTop (mkF m 196 #[vi p0, vl p1, ss, vl p2, ss, vl p3, ss, vi p4, vi v0, vl v1, ss, vl v2, ss, vl v3, ss, vi 0, va b4, vl 256, ss, vl v4, ss, vl v5, ss, vi 1, va b9, vl v6, ss, vi 1, uu, uu, uu, uu, uu, uu] [(.long (((np_10.toInt64) * (8 : Int64)) + ((1 : Int64) * ((((ps_10.toInt64) * (v0.toInt64)) + ((ps_10 / (8 : Int32)).toInt64)) + (64 : Int64)))))])) _
          rw [← hv7]
          refine XS.lstore X16.here hx rfl (hb hby at_196) rfl (l' := #[vi p0, vl p1, ss, vl p2, ss, vl p3, ss, vi p4, vi v0, vl v1, ss, vl v2, ss, vl v3, ss, vi 0, va b4, vl 256, ss, vl v4, ss, vl v5, ss, vi 1, va b9, vl v6, ss, vi 1, vl v7, ss, uu, uu, uu, uu]) rfl ?_
          refine XS.iload X16.here hx rfl (hb hby at_198) rfl ?_
          refine XS.ifNo X16.here hx rfl (hb hby at_200) rfl ((if0 _ _).trans (feq (by decide : ¬ ((1 : Int32) = (0 : Int32)))).1) ?_
          refine XS.lload X16.here hx rfl (hb hby at_203) rfl ?_
          refine XS.lload X16.here hx rfl (hb hby at_205) rfl ?_
          refine XS.lload X16.here hx rfl (hb hby at_207) rfl ?_
          refine XS.ladd X16.here hx rfl (hb hby at_209) rfl ?_
          refine XS.lcmp X16.here hx rfl (hb hby at_210) rfl ?_
          show Steps p.tables e below (T16.setTop (mkF m 211 #[vi p0, vl p1, ss, vl p2, ss, vl p3, ss, vi p4, vi v0, vl v1, ss, vl v2, ss, vl v3, ss, vi 0, va b4, vl 256, ss, vl v4, ss, vl v5, ss, vi 1, va b9, vl v6, ss, vi 1, vl v7, ss, uu, uu, uu, uu] [(.int (lcmpW v7 (v6 + v5)))])) _
          refine XS.ifNo X16.here hx rfl (hb hby at_211) rfl (own_lc_eqT hc17).2 ?_
          refine XS.iconst X16.here hx rfl (hb hby at_214) ?_
          refine XS.goto X16.here hx rfl (pc0 := 215) (pc' := 219) rfl (hb hby at_215) (by decide) (by decide) ?_
          refine XS.istore X16.here hx rfl (hb hby at_219) rfl (l' := #[vi p0, vl p1, ss, vl p2, ss, vl p3, ss, vi p4, vi v0, vl v1, ss, vl v2, ss, vl v3, ss, vi 0, va b4, vl 256, ss, vl v4, ss, vl v5, ss, vi 1, va b9, vl v6, ss, vi 1, vl v7, ss, uu, uu, uu, uu]) rfl ?_
          refine XS.iload X16.here hx rfl (hb hby at_221) rfl ?_
          refine XS.ifYes X16.here hx rfl (pc0 := 223) (pc' := 257) rfl (hb hby at_223) rfl ((if0 _ _).trans (teq (by decide : (0 : Int32) = (0 : Int32))).1) (by decide) (by decide) ?_
          refine XS.aload X16.here hx rfl (hb hby at_257) rfl rfl ?_
          refine XS.lload X16.here hx rfl (hb hby at_259) rfl ?_
          show Steps p.tables e below (T16.setTop (mkF m 261 #[vi p0, vl p1, ss, vl p2, ss, vl p3, ss, vi p4, vi v0, vl v1, ss, vl v2, ss, vl v3, ss, vi 0, va b4, vl 256, ss, vl v4, ss, vl v5, ss, vi 1, va b9, vl v6, ss, vi 1, vl v7, ss, uu, uu, uu, uu] [(.long v3), (.ref b9)])) _
          refine XS.aload X16.here hx rfl (hb hby at_261) rfl rfl ?_
          refine st19.trans ?_
          refine XS.aload X19.here hx rfl (hb hby at_266) rfl rfl ?_
          refine st21.trans ?_
          show Steps p.tables e below (T21.setTop (mkF m 271 #[vi p0, vl p1, ss, vl p2, ss, vl p3, ss, vi p4, vi v0, vl v1, ss, vl v2, ss, vl v3, ss, vi 0, va b4, vl 256, ss, vl v4, ss, vl v5, ss, vi 1, va b9, vl v6, ss, vi 1, vl v7, ss, uu, uu, uu, uu] [(.long (((np_10.toInt64) * (8 : Int64)) + ((1 : Int64) * ((((ps_10.toInt64) * (v0.toInt64)) + ((ps_10 / (8 : Int32)).toInt64)) + (64 : Int64)))))])) _
          rw [← hv8]
          refine XS.lstore X21.here hx rfl (hb hby at_271) rfl (l' := #[vi p0, vl p1, ss, vl p2, ss, vl p3, ss, vi p4, vi v0, vl v1, ss, vl v2, ss, vl v3, ss, vi 0, va b4, vl 256, ss, vl v4, ss, vl v5, ss, vi 1, va b9, vl v6, ss, vi 1, vl v7, ss, vl v8, ss, uu, uu]) rfl ?_
          refine XS.iload X21.here hx rfl (hb hby at_273) rfl ?_
          refine XS.ifNo X21.here hx rfl (hb hby at_275) rfl ((if0 _ _).trans (feq (by decide : ¬ ((1 : Int32) = (0 : Int32)))).1) ?_
          refine XS.lload X21.here hx rfl (hb hby at_278) rfl ?_
          refine XS.lload X21.here hx rfl (hb hby at_280) rfl ?_
          refine XS.ladd X21.here hx rfl (hb hby at_282) rfl ?_
          refine XS.goto X21.here hx rfl (pc0 := 283) (pc' := 295) rfl (hb hby at_283) (by decide) (by decide) ?_
          show Steps p.tables e below (T21.setTop (mkF m 295 #[vi p0, vl p1, ss, vl p2, ss, vl p3, ss, vi p4, vi v0, vl v1, ss, vl v2, ss, vl v3, ss, vi 0, va b4, vl 256, ss, vl v4, ss, vl v5, ss, vi 1, va b9, vl v6, ss, vi 1, vl v7, ss, vl v8, ss, uu, uu] [(.long (v6 + v5))])) _
          rw [← hv9]
          refine XS.lstore X21.here hx rfl (hb hby at_295) rfl (l' := #[vi p0, vl p1, ss, vl p2, ss, vl p3, ss, vi p4, vi v0, vl v1, ss, vl v2, ss, vl v3, ss, vi 0, va b4, vl 256, ss, vl v4, ss, vl v5, ss, vi 1, va b9, vl v6, ss, vi 1, vl v7, ss, vl v8, ss, vl v9, ss]) rfl ?_
          refine XS.iload X21.here hx rfl (hb hby at_297) rfl ?_
          refine XS.ifNo X21.here hx rfl (hb hby at_299) rfl ((if0 _ _).trans (feq (by decide : ¬ ((1 : Int32) = (0 : Int32)))).1) ?_
          refine XS.lload X21.here hx rfl (hb hby at_302) rfl ?_
          refine XS.lload X21.here hx rfl (hb hby at_304) rfl ?_
          refine XS.lcmp X21.here hx rfl (hb hby at_306) rfl ?_
          refine XS.ifNo X21.here hx rfl (hb hby at_307) rfl (own_lc_eqT hc22).2 ?_
          refine XS.iconst X21.here hx rfl (hb hby at_310) ?_
          show Steps p.tables e below (T21.setTop (mkF m 311 #[vi p0, vl p1, ss, vl p2, ss, vl p3, ss, vi p4, vi v0, vl v1, ss, vl v2, ss, vl v3, ss, vi 0, va b4, vl 256, ss, vl v4, ss, vl v5, ss, vi 1, va b9, vl v6, ss, vi 1, vl v7, ss, vl v8, ss, vl v9, ss] [(.int 1)])) _
          refine XS.goto X21.here hx rfl (pc0 := 311) (pc' := 315) rfl (hb hby at_311) (by decide) (by decide) ?_
          exact retN X21 hx (t := .boolean) hrt (by simp) (hb hby at_315) hr
        · show Q0 n0 (some (.int 1)) T21.heap _
          exact (⟨rfl, N21⟩)
      · obtain ⟨T9, h9, X9, e9, E9, A9, D9, -, st9⟩ := newO X4 hx hZ hown (ww hw 6 rfl) (ww hw 7 rfl) (ww hw 8 rfl) e4 (g := (mkF m 143 #[vi p0, vl p1, ss, vl p2, ss, vl p3, ss, vi p4, vi v0, vl v1, ss, vl v2, ss, vl v3, ss, vi 0, va b4, vl 256, ss, vl v4, ss, vl v5, ss, vi 0, uu, uu, uu, uu, uu, uu, uu, uu, uu, uu] [])) rfl (hb hby at_143) (by decide) (by decide)
        obtain ⟨b9, qs9⟩ : ∃ z, z = h4.size := ⟨_, rfl⟩
        rw [← qs9] at A9 D9 st9
        have ne_b4_b9 : b4 ≠ b9 := Nat.ne_of_lt (Nat.lt_of_lt_of_le V_b4.lt (Nat.le_of_eq qs9.symm))
        have g_b9 : n0 ≤ b9 := Nat.le_trans (own_old O4) (Nat.le_of_eq qs9.symm)
        have sz_b9 : h0.size ≤ b9 := Nat.le_trans K4.1 (Nat.le_of_eq qs9.symm)
        have O9 := O4.ext E9
        have K9 : Keep h0 h9 [] := K4.ext E9
        have F_length_b9 : Fld Z h9 b9 sC0 "length" "I" (.int 0) := D9 (Or.inr (ww hw 16 rfl)) (ty := .int) (by decide)
        have F_pageSlots_b9 : Fld Z h9 b9 sC0 "pageSlots" "I" (.int 0) := D9 (Or.inr (ww hw 23 rfl)) (ty := .int) (by decide)
        have F_pages_b9 : Fld Z h9 b9 sC0 "pages" "[Lcom/example/tributary/tributary/model/NodeHashes$Page;" .null := D9 (Or.inr (ww hw 30 rfl)) (ty := (.array (.object sC2))) (by decide)
        have F_pagesMade_b9 : Fld Z h9 b9 sC0 "pagesMade" "I" (.int 0) := D9 (Or.inl (ww hw 38 rfl)) (ty := .int) (by decide)
        have F_held_b9 : Fld Z h9 b9 sC0 "held" "J" (.long 0) := D9 (Or.inl (ww hw 111 rfl)) (ty := .long) (by decide)
        have hS := own_LS hv1
        obtain ⟨_, _, ⟨T10, L10, k10, n10⟩, -, X10, ⟨Lc10, hQ10, l10, y10, z10⟩, st10⟩ := X9.specialBack hx (y := My1) rfl hown (mvT hZ (ww hw 9 rfl)) (mvT hZ (ww hw 10 rfl)) (mvT hZ (ww hw 11 rfl)) (by decide) (backOf (W := 1) (rm1_0 l Z a0 hw []  b9 v0 v1 h9 n0 O9 S A9 F_held_b9 F_length_b9 F_pageSlots_b9 F_pages_b9 F_pagesMade_b9 g_b9 hS) hZ (ww hw 11 rfl) (ww hw 8 rfl) (by decide) (by decide)) (g := (mkF m 151 #[vi p0, vl p1, ss, vl p2, ss, vl p3, ss, vi p4, vi v0, vl v1, ss, vl v2, ss, vl v3, ss, vi 0, va b4, vl 256, ss, vl v4, ss, vl v5, ss, vi 0, uu, uu, uu, uu, uu, uu, uu, uu, uu, uu] [(.long v1), (.int v0), (.ref b9), (.ref b9)])) rfl (by rw [hml]; rfl) (Steps.refl _) (a := b9) (argsL := [(.int v0), (.long v1)]) (rest := [(.ref b9)]) (lenOf pd_2 rfl) rfl (by show 2 * 0 + _ ≤ _; exact Nat.le_of_eq rfl) (hb hby at_151) (fun _ _ => ⟨rfl, e9, (by decide : 2 + 1 ≤ _), (by decide : 69 + 256 ≤ _)⟩)
        dsimp only [Pt.U, Pt.locs, Pt.cells, Pt.slots] at X10 l10 y10 z10 st10 hQ10
        subst l10 y10 z10
        have fc11 := (V_b4.ext E9)
        obtain ⟨b13_10, ps_10, np_10, rfl, Nq10, Kc10, P0_10, P1_10, P2_10, P3_10, P4_10, P5_10, P6_10, P7_10, np0_10⟩ := hQ10
        have N10 := Fr.app N0 Nq10
        have ne_b4_b13_10 : b4 ≠ b13_10 := Nat.ne_of_lt (Nat.lt_of_lt_of_le fc11.lt P7_10)
        have ne_b9_b13_10 : b9 ≠ b13_10 := Nat.ne_of_lt (Nat.lt_of_lt_of_le A9.lt P7_10)
        have g_b13_10 : n0 ≤ b13_10 := Nat.le_trans (own_old O9) P7_10
        have sz_b13_10 : h0.size ≤ b13_10 := Nat.le_trans K9.1 P7_10
        have O10 := O9.keep Kc10 (allS g_b9 all0)
        have K10 : Keep h0 T10.heap [] := K9.trans Kc10 (allS (Or.inr sz_b9) all0)
        have hIN := np0_10
        have hNP := own_LP (own_Ll hv0) hS hIN
        have hSa := own_LSL hS hIN (own_La hS hv2)
        have hSb := own_LSL hS hIN (own_La hS hv3)
        have hFT := own_LFT hS hIN
        obtain ⟨cq12, kq12, q12a, q12b, q12c⟩ := isOf hZ rfl P0_10
        obtain ⟨_, _, ⟨T12, L12, k12, n12⟩, -, X12, ⟨Lc12, hQ12, l12, y12, z12⟩, st12⟩ := X10.virtualBack hx (y := My5) (z := My5) hown (mvT hZ (ww hw 31 rfl)) (mvT hZ (ww hw 32 rfl)) (notFace_of_selects (args := #[]) (mvT hZ (ww hw 34 rfl))) (mvT hZ (ww hw 34 rfl)) (mvT hZ (ww hw 33 rfl)) (by decide) (backOf (W := 0) (rm5_0 l Z a0 hw []  b9 b13_10 (0 : Int64) v0 ps_10 np_10 T10.heap n0 O10 S P2_10 P3_10 P4_10 P5_10 P6_10) hZ (ww hw 35 rfl) (ww hw 8 rfl) (by decide) (by decide)) q12a q12c (g := (mkF m 158 #[vi p0, vl p1, ss, vl p2, ss, vl p3, ss, vi p4, vi v0, vl v1, ss, vl v2, ss, vl v3, ss, vi 0, va b4, vl 256, ss, vl v4, ss, vl v5, ss, vi 0, va b9, uu, uu, uu, uu, uu, uu, uu, uu, uu] [(.ref b9)])) rfl (by rw [hml]; rfl) (Steps.refl _) (argsL := []) (rest := []) (lenOf pd_3 rfl) rfl (by show 2 * 0 + _ ≤ _; exact Nat.le_of_eq rfl) (hb hby at_158) (fun _ _ => ⟨rfl, rfl, (by decide : 3 + 0 ≤ _), (by decide : 325 + 0 ≤ _)⟩)
        dsimp only [Pt.U, Pt.locs, Pt.cells, Pt.slots] at X12 l12 y12 z12 st12 hQ12
        subst l12 y12 z12
        obtain ⟨rfl, Nq12, e12⟩ := hQ12
        have N12 := Fr.app N10 Nq12
        obtain ⟨v10, hv10⟩ : ∃ z : Int64, z = (((np_10.toInt64) * (8 : Int64)) + ((0 : Int64) * ((((ps_10.toInt64) * (v0.toInt64)) + ((ps_10 / (8 : Int32)).toInt64)) + (64 : Int64)))) := ⟨_, rfl⟩
        have hc13 : v10 = (v4 * (8 : Int64)) := (own_Lb0 hS hIN hv10 (Or.inr ⟨hc5, hv4⟩))
        have fc14 := (fc11.keep Kc10 (ninS ne_b4_b9 nin0))
        obtain ⟨cq15, kq15, q15a, q15b, q15c⟩ := isOf hZ e12 P0_10
        obtain ⟨_, _, ⟨T15, L15, k15, n15⟩, -, X15, ⟨Lc15, hQ15, l15, y15, z15⟩, st15⟩ := X12.virtualBack hx (y := My6) (z := My6) hown (mvT hZ (ww hw 40 rfl)) (mvT hZ (ww hw 41 rfl)) (notFace_of_selects (args := #[]) (mvT hZ (ww hw 43 rfl))) (mvT hZ (ww hw 43 rfl)) (mvT hZ (ww hw 42 rfl)) (by decide) (backOf (W := 0) (rm6_0 l Z a0 hw []  b9 b13_10 b4 (0 : Int64) v0 ps_10 np_10 v2 T10.heap n0 O10 S P0_10 P1_10 P2_10 P3_10 P4_10 P5_10 P6_10 fc14 ne_b9_b13_10 (Ne.symm ne_b4_b9) (Ne.symm ne_b4_b13_10) g_b9 g_b13_10 hNP hSa) hZ (ww hw 44 rfl) (ww hw 8 rfl) (by decide) (by decide)) q15a q15c (g := (mkF m 188 #[vi p0, vl p1, ss, vl p2, ss, vl p3, ss, vi p4, vi v0, vl v1, ss, vl v2, ss, vl v3, ss, vi 0, va b4, vl 256, ss, vl v4, ss, vl v5, ss, vi 0, va b9, vl v10, ss, vi 1, uu, uu, uu, uu, uu, uu] [(.ref b4), (.long v2), (.ref b9)])) rfl (by rw [hml]; rfl) (Steps.refl _) (argsL := [(.long v2), (.ref b4)]) (rest := []) (lenOf pd_9 rfl) rfl (by show 2 * 0 + _ ≤ _; exact Nat.le_of_eq rfl) (hb hby at_188) (fun _ _ => ⟨rfl, e12, (by decide : 3 + 4 ≤ _), (by decide : 325 + 16137 ≤ _)⟩)
        dsimp only [Pt.U, Pt.locs, Pt.cells, Pt.slots] at X15 l15 y15 z15 st15 hQ15
        subst l15 y15 z15
        obtain ⟨b4_15, b3_9_15, b9_9_15, b3_10_10_9_15, hv_15, u_15, rfl, Nq15, Kc15, P0_15, P1_15, P2_15, P3_15, P4_15, P5_15, P6_15, P7_15, P8_15, P9_15, P10_15, P11_15, P12_15, P13_15, P14_15, P15_15, P16_15, P17_15, P18_15, P19_15, P20_15, P21_15, P22_15, P23_15, P24_15, np0_15⟩ := hQ15
        have N15 := Fr.app N12 Nq15
        have ne_b4_b4_15 : b4 ≠ b4_15 := Nat.ne_of_lt (Nat.lt_of_lt_of_le fc14.lt P15_15)
        have ne_b9_b4_15 : b9 ≠ b4_15 := Nat.ne_of_lt (Nat.lt_of_lt_of_le P0_10.lt P15_15)
        have ne_b13_10_b4_15 : b13_10 ≠ b4_15 := Nat.ne_of_lt (Nat.lt_of_lt_of_le P6_10.lt P15_15)
        have ne_b4_b3_9_15 : b4 ≠ b3_9_15 := Nat.ne_of_lt (Nat.lt_of_lt_of_le fc14.lt P16_15)
        have ne_b9_b3_9_15 : b9 ≠ b3_9_15 := Nat.ne_of_lt (Nat.lt_of_lt_of_le P0_10.lt P16_15)
        have ne_b13_10_b3_9_15 : b13_10 ≠ b3_9_15 := Nat.ne_of_lt (Nat.lt_of_lt_of_le P6_10.lt P16_15)
        have ne_b4_b9_9_15 : b4 ≠ b9_9_15 := Nat.ne_of_lt (Nat.lt_of_lt_of_le fc14.lt P17_15)
        have ne_b9_b9_9_15 : b9 ≠ b9_9_15 := Nat.ne_of_lt (Nat.lt_of_lt_of_le P0_10.lt P17_15)
        have ne_b13_10_b9_9_15 : b13_10 ≠ b9_9_15 := Nat.ne_of_lt (Nat.lt_of_lt_of_le P6_10.lt P17_15)
        have ne_b4_b3_10_10_9_15 : b4 ≠ b3_10_10_9_15 := Nat.ne_of_lt (Nat.lt_of_lt_of_le fc14.lt P18_15)
        have ne_b9_b3_10_10_9_15 : b9 ≠ b3_10_10_9_15 := Nat.ne_of_lt (Nat.lt_of_lt_of_le P0_10.lt P18_15)
        have ne_b13_10_b3_10_10_9_15 : b13_10 ≠ b3_10_10_9_15 := Nat.ne_of_lt (Nat.lt_of_lt_of_le P6_10.lt P18_15)
        have g_b4_15 : n0 ≤ b4_15 := Nat.le_trans (own_old O10) P15_15
        have sz_b4_15 : h0.size ≤ b4_15 := Nat.le_trans K10.1 P15_15
        have g_b3_9_15 : n0 ≤ b3_9_15 := Nat.le_trans (own_old O10) P16_15
        have sz_b3_9_15 : h0.size ≤ b3_9_15 := Nat.le_trans K10.1 P16_15
        have g_b9_9_15 : n0 ≤ b9_9_15 := Nat.le_trans (own_old O10) P17_15
        have sz_b9_9_15 : h0.size ≤ b9_9_15 := Nat.le_trans K10.1 P17_15
        have g_b3_10_10_9_15 : n0 ≤ b3_10_10_9_15 := Nat.le_trans (own_old O10) P18_15
        have sz_b3_10_10_9_15 : h0.size ≤ b3_10_10_9_15 := Nat.le_trans K10.1 P18_15
        have O15 := O10.keep Kc15 (allS g_b9 (allS g_b13_10 all0))
        have K15 : Keep h0 T15.heap [] := K10.trans Kc15 (allS (Or.inr sz_b9) (allS (Or.inr sz_b13_10) all0))
        obtain ⟨cq16, kq16, q16a, q16b, q16c⟩ := isOf hZ rfl P0_15
        obtain ⟨_, _, ⟨T16, L16, k16, n16⟩, -, X16, ⟨Lc16, hQ16, l16, y16, z16⟩, st16⟩ := X15.virtualBack hx (y := My5) (z := My5) hown (mvT hZ (ww hw 31 rfl)) (mvT hZ (ww hw 32 rfl)) (notFace_of_selects (args := #[]) (mvT hZ (ww hw 34 rfl))) (mvT hZ (ww hw 34 rfl)) (mvT hZ (ww hw 33 rfl)) (by decide) (backOf (W := 0) (rm5_1 l Z a0 hw []  b9 b13_10 b4_15 b3_9_15 b9_9_15 b3_10_10_9_15 hv_15 v0 ps_10 np_10 ((v2 / (ps_10.toInt64)).toInt32) (ps_10 * v0) u_15 (((ps_10 - (1 : Int32)) >>> ((6 : Int32) &&& 31)) + (1 : Int32)) T15.heap n0 O15 S P2_15 P3_15 P4_15 P5_15 P6_15) hZ (ww hw 35 rfl) (ww hw 8 rfl) (by decide) (by decide)) q16a q16c (g := (mkF m 193 #[vi p0, vl p1, ss, vl p2, ss, vl p3, ss, vi p4, vi v0, vl v1, ss, vl v2, ss, vl v3, ss, vi 0, va b4, vl 256, ss, vl v4, ss, vl v5, ss, vi 0, va b9, vl v10, ss, vi 1, uu, uu, uu, uu, uu, uu] [(.ref b9)])) rfl (by rw [hml]; rfl) (Steps.refl _) (argsL := []) (rest := []) (lenOf pd_3 rfl) rfl (by show 2 * 0 + _ ≤ _; exact Nat.le_of_eq rfl) (hb hby at_193) (fun _ _ => ⟨rfl, rfl, (by decide : 7 + 0 ≤ _), (by decide : 16462 + 0 ≤ _)⟩)
        dsimp only [Pt.U, Pt.locs, Pt.cells, Pt.slots] at X16 l16 y16 z16 st16 hQ16
        subst l16 y16 z16
        obtain ⟨rfl, Nq16, e16⟩ := hQ16
        have N16 := Fr.app N15 Nq16
        obtain ⟨v11, hv11⟩ : ∃ z : Int64, z = (((np_10.toInt64) * (8 : Int64)) + ((1 : Int64) * ((((ps_10.toInt64) * (v0.toInt64)) + ((ps_10 / (8 : Int32)).toInt64)) + (64 : Int64)))) := ⟨_, rfl⟩
        have hc17 : v11 = (v10 + v5) := (own_Lb1 hS hIN hNP hv10 hv11 hv5 (Or.inr ⟨hc5, rfl, rfl⟩))
        have fc18 := (fc14.keep Kc15 (ninS ne_b4_b9 (ninS ne_b4_b13_10 nin0)))
        obtain ⟨cq19, kq19, q19a, q19b, q19c⟩ := isOf hZ e16 P0_15
        obtain ⟨_, _, ⟨T19, L19, k19, n19⟩, -, X19, ⟨Lc19, hQ19, l19, y19, z19⟩, st19⟩ := X16.virtualBack hx (y := My6) (z := My6) hown (mvT hZ (ww hw 40 rfl)) (mvT hZ (ww hw 41 rfl)) (notFace_of_selects (args := #[]) (mvT hZ (ww hw 43 rfl))) (mvT hZ (ww hw 43 rfl)) (mvT hZ (ww hw 42 rfl)) (by decide) (backOf (W := 0) (rm6_2 l Z a0 hw []  b9 b13_10 b4_15 b3_9_15 b9_9_15 b3_10_10_9_15 b4 hv_15 v0 ps_10 np_10 ((v2 / (ps_10.toInt64)).toInt32) (ps_10 * v0) u_15 (((ps_10 - (1 : Int32)) >>> ((6 : Int32) &&& 31)) + (1 : Int32)) v3 T15.heap n0 O15 S P0_15 P1_15 P2_15 P3_15 P4_15 P5_15 P6_15 P7_15 P10_15 P11_15 P14_15 fc18 ne_b9_b13_10 ne_b9_b3_9_15 ne_b9_b3_10_10_9_15 (Ne.symm ne_b4_b9) ne_b13_10_b3_9_15 ne_b13_10_b3_10_10_9_15 (Ne.symm ne_b4_b13_10) g_b9 g_b13_10 hNP hSb (own_Lj2 hS hIN (own_La hS hv2) (own_La hS hv3) hc5 hc7)) hZ (ww hw 44 rfl) (ww hw 8 rfl) (by decide) (by decide)) q19a q19c (g := (mkF m 263 #[vi p0, vl p1, ss, vl p2, ss, vl p3, ss, vi p4, vi v0, vl v1, ss, vl v2, ss, vl v3, ss, vi 0, va b4, vl 256, ss, vl v4, ss, vl v5, ss, vi 0, va b9, vl v10, ss, vi 1, vl v11, ss, uu, uu, uu, uu] [(.ref b4), (.long v3), (.ref b9)])) rfl (by rw [hml]; rfl) (Steps.refl _) (argsL := [(.long v3), (.ref b4)]) (rest := []) (lenOf pd_9 rfl) rfl (by show 2 * 0 + _ ≤ _; exact Nat.le_of_eq rfl) (hb hby at_263) (fun _ _ => ⟨rfl, e16, (by decide : 7 + 4 ≤ _), (by decide : 16462 + 16137 ≤ _)⟩)
        dsimp only [Pt.U, Pt.locs, Pt.cells, Pt.slots] at X19 l19 y19 z19 st19 hQ19
        subst l19 y19 z19
        obtain ⟨b5_19, b3_10_19, b9_10_19, b3_10_10_10_19, hv_19, u_19, rfl, Nq19, Kc19, P0_19, P1_19, P2_19, P3_19, P4_19, P5_19, P6_19, P7_19, P8_19, P9_19, P10_19, P11_19, P12_19, P13_19, P14_19, P15_19, P16_19, P17_19, P18_19, P19_19, P20_19, P21_19, P22_19, P23_19, P24_19, np0_19⟩ := hQ19
        have N19 := Fr.app N16 Nq19
        have ne_b4_b5_19 : b4 ≠ b5_19 := Nat.ne_of_lt (Nat.lt_of_lt_of_le fc18.lt P15_19)
        have ne_b9_b5_19 : b9 ≠ b5_19 := Nat.ne_of_lt (Nat.lt_of_lt_of_le P0_15.lt P15_19)
        have ne_b13_10_b5_19 : b13_10 ≠ b5_19 := Nat.ne_of_lt (Nat.lt_of_lt_of_le P6_15.lt P15_19)
        have ne_b4_15_b5_19 : b4_15 ≠ b5_19 := Nat.ne_of_lt (Nat.lt_of_lt_of_le P7_15.lt P15_19)
        have ne_b3_9_15_b5_19 : b3_9_15 ≠ b5_19 := Nat.ne_of_lt (Nat.lt_of_lt_of_le P10_15.lt P15_19)
        have ne_b9_9_15_b5_19 : b9_9_15 ≠ b5_19 := Nat.ne_of_lt (Nat.lt_of_lt_of_le P11_15.lt P15_19)
        have ne_b3_10_10_9_15_b5_19 : b3_10_10_9_15 ≠ b5_19 := Nat.ne_of_lt (Nat.lt_of_lt_of_le P14_15.lt P15_19)
        have ne_b4_b3_10_19 : b4 ≠ b3_10_19 := Nat.ne_of_lt (Nat.lt_of_lt_of_le fc18.lt P16_19)
        have ne_b9_b3_10_19 : b9 ≠ b3_10_19 := Nat.ne_of_lt (Nat.lt_of_lt_of_le P0_15.lt P16_19)
        have ne_b13_10_b3_10_19 : b13_10 ≠ b3_10_19 := Nat.ne_of_lt (Nat.lt_of_lt_of_le P6_15.lt P16_19)
        have ne_b4_15_b3_10_19 : b4_15 ≠ b3_10_19 := Nat.ne_of_lt (Nat.lt_of_lt_of_le P7_15.lt P16_19)
        have ne_b3_9_15_b3_10_19 : b3_9_15 ≠ b3_10_19 := Nat.ne_of_lt (Nat.lt_of_lt_of_le P10_15.lt P16_19)
        have ne_b9_9_15_b3_10_19 : b9_9_15 ≠ b3_10_19 := Nat.ne_of_lt (Nat.lt_of_lt_of_le P11_15.lt P16_19)
        have ne_b3_10_10_9_15_b3_10_19 : b3_10_10_9_15 ≠ b3_10_19 := Nat.ne_of_lt (Nat.lt_of_lt_of_le P14_15.lt P16_19)
        have ne_b4_b9_10_19 : b4 ≠ b9_10_19 := Nat.ne_of_lt (Nat.lt_of_lt_of_le fc18.lt P17_19)
        have ne_b9_b9_10_19 : b9 ≠ b9_10_19 := Nat.ne_of_lt (Nat.lt_of_lt_of_le P0_15.lt P17_19)
        have ne_b13_10_b9_10_19 : b13_10 ≠ b9_10_19 := Nat.ne_of_lt (Nat.lt_of_lt_of_le P6_15.lt P17_19)
        have ne_b4_15_b9_10_19 : b4_15 ≠ b9_10_19 := Nat.ne_of_lt (Nat.lt_of_lt_of_le P7_15.lt P17_19)
        have ne_b3_9_15_b9_10_19 : b3_9_15 ≠ b9_10_19 := Nat.ne_of_lt (Nat.lt_of_lt_of_le P10_15.lt P17_19)
        have ne_b9_9_15_b9_10_19 : b9_9_15 ≠ b9_10_19 := Nat.ne_of_lt (Nat.lt_of_lt_of_le P11_15.lt P17_19)
        have ne_b3_10_10_9_15_b9_10_19 : b3_10_10_9_15 ≠ b9_10_19 := Nat.ne_of_lt (Nat.lt_of_lt_of_le P14_15.lt P17_19)
        have ne_b4_b3_10_10_10_19 : b4 ≠ b3_10_10_10_19 := Nat.ne_of_lt (Nat.lt_of_lt_of_le fc18.lt P18_19)
        have ne_b9_b3_10_10_10_19 : b9 ≠ b3_10_10_10_19 := Nat.ne_of_lt (Nat.lt_of_lt_of_le P0_15.lt P18_19)
        have ne_b13_10_b3_10_10_10_19 : b13_10 ≠ b3_10_10_10_19 := Nat.ne_of_lt (Nat.lt_of_lt_of_le P6_15.lt P18_19)
        have ne_b4_15_b3_10_10_10_19 : b4_15 ≠ b3_10_10_10_19 := Nat.ne_of_lt (Nat.lt_of_lt_of_le P7_15.lt P18_19)
        have ne_b3_9_15_b3_10_10_10_19 : b3_9_15 ≠ b3_10_10_10_19 := Nat.ne_of_lt (Nat.lt_of_lt_of_le P10_15.lt P18_19)
        have ne_b9_9_15_b3_10_10_10_19 : b9_9_15 ≠ b3_10_10_10_19 := Nat.ne_of_lt (Nat.lt_of_lt_of_le P11_15.lt P18_19)
        have ne_b3_10_10_9_15_b3_10_10_10_19 : b3_10_10_9_15 ≠ b3_10_10_10_19 := Nat.ne_of_lt (Nat.lt_of_lt_of_le P14_15.lt P18_19)
        have g_b5_19 : n0 ≤ b5_19 := Nat.le_trans (own_old O15) P15_19
        have sz_b5_19 : h0.size ≤ b5_19 := Nat.le_trans K15.1 P15_19
        have g_b3_10_19 : n0 ≤ b3_10_19 := Nat.le_trans (own_old O15) P16_19
        have sz_b3_10_19 : h0.size ≤ b3_10_19 := Nat.le_trans K15.1 P16_19
        have g_b9_10_19 : n0 ≤ b9_10_19 := Nat.le_trans (own_old O15) P17_19
        have sz_b9_10_19 : h0.size ≤ b9_10_19 := Nat.le_trans K15.1 P17_19
        have g_b3_10_10_10_19 : n0 ≤ b3_10_10_10_19 := Nat.le_trans (own_old O15) P18_19
        have sz_b3_10_10_10_19 : h0.size ≤ b3_10_10_10_19 := Nat.le_trans K15.1 P18_19
        have O19 := O15.keep Kc19 (allS g_b9 (allS g_b13_10 all0))
        have K19 : Keep h0 T19.heap [] := K15.trans Kc19 (allS (Or.inr sz_b9) (allS (Or.inr sz_b13_10) all0))
        obtain ⟨cq20, kq20, q20a, q20b, q20c⟩ := isOf hZ rfl P0_19
        obtain ⟨_, _, ⟨T20, L20, k20, n20⟩, -, X20, ⟨Lc20, hQ20, l20, y20, z20⟩, st20⟩ := X19.virtualBack hx (y := My5) (z := My5) hown (mvT hZ (ww hw 31 rfl)) (mvT hZ (ww hw 32 rfl)) (notFace_of_selects (args := #[]) (mvT hZ (ww hw 34 rfl))) (mvT hZ (ww hw 34 rfl)) (mvT hZ (ww hw 33 rfl)) (by decide) (backOf (W := 0) (rm5_2 l Z a0 hw []  b9 b13_10 b5_19 b3_10_19 b9_10_19 b3_10_10_10_19 b4_15 b3_9_15 b9_9_15 b3_10_10_9_15 hv_19 v0 ps_10 np_10 ((v3 / (ps_10.toInt64)).toInt32) ((v2 / (ps_10.toInt64)).toInt32) (ps_10 * v0) u_19 (((ps_10 - (1 : Int32)) >>> ((6 : Int32) &&& 31)) + (1 : Int32)) (ps_10 * v0) u_15 (((ps_10 - (1 : Int32)) >>> ((6 : Int32) &&& 31)) + (1 : Int32)) T19.heap n0 O19 S P2_19 P3_19 P4_19 P5_19 P6_19) hZ (ww hw 35 rfl) (ww hw 8 rfl) (by decide) (by decide)) q20a q20c (g := (mkF m 268 #[vi p0, vl p1, ss, vl p2, ss, vl p3, ss, vi p4, vi v0, vl v1, ss, vl v2, ss, vl v3, ss, vi 0, va b4, vl 256, ss, vl v4, ss, vl v5, ss, vi 0, va b9, vl v10, ss, vi 1, vl v11, ss, uu, uu, uu, uu] [(.ref b9)])) rfl (by rw [hml]; rfl) (Steps.refl _) (argsL := []) (rest := []) (lenOf pd_3 rfl) rfl (by show 2 * 0 + _ ≤ _; exact Nat.le_of_eq rfl) (hb hby at_268) (fun _ _ => ⟨rfl, rfl, (by decide : 11 + 0 ≤ _), (by decide : 32599 + 0 ≤ _)⟩)
        dsimp only [Pt.U, Pt.locs, Pt.cells, Pt.slots] at X20 l20 y20 z20 st20 hQ20
        subst l20 y20 z20
        obtain ⟨rfl, Nq20, e20⟩ := hQ20
        have N20 := Fr.app N19 Nq20
        obtain ⟨v12, hv12⟩ : ∃ z : Int64, z = (((np_10.toInt64) * (8 : Int64)) + ((2 : Int64) * ((((ps_10.toInt64) * (v0.toInt64)) + ((ps_10 / (8 : Int32)).toInt64)) + (64 : Int64)))) := ⟨_, rfl⟩
        obtain ⟨v13, hv13⟩ : ∃ z : Int64, z = (v10 + ((2 : Int64) * v5)) := ⟨_, rfl⟩
        have hc21 : v12 = v13 := (own_Lb3 hS hIN hNP hv10 hv12 hv5 hv13 (Or.inr ⟨hc5, rfl, rfl⟩))
        obtain ⟨fs, hr, hrun, hended, hW, hsame⟩ := X20.leave (v := (some (.int 1))) (fun h => by rw [hrt] at h; cases h) hlk
        refine ⟨_, _, pre_8 _ ?_, hrun, hended, _, _, rfl, ?_, ⟨_, rfl⟩, hW, hsame.mono (by decide) (by decide)⟩
        · show Steps p.tables e below (T4.setTop (mkF m 133 #[vi p0, vl p1, ss, vl p2, ss, vl p3, ss, vi p4, vi v0, vl v1, ss, vl v2, ss, vl v3, ss, vi 0, va b4, vl 256, ss, vl v4, ss, vl v5, ss, uu, uu, uu, uu, uu, uu, uu, uu, uu, uu, uu] [(.int (lcmpW (v2 / (256 : Int64)) (v3 / (256 : Int64))))])) _
          refine XS.ifYes X4.here hx rfl (pc0 := 133) (pc' := 140) rfl (hb hby at_133) rfl (own_lc_eqF hc7).2 (by decide) (by decide) ?_
          refine XS.iconst X4.here hx rfl (hb hby at_140) ?_
          refine XS.istore X4.here hx rfl (hb hby at_141) rfl (l' := #[vi p0, vl p1, ss, vl p2, ss, vl p3, ss, vi p4, vi v0, vl v1, ss, vl v2, ss, vl v3, ss, vi 0, va b4, vl 256, ss, vl v4, ss, vl v5, ss, vi 0, uu, uu, uu, uu, uu, uu, uu, uu, uu, uu]) rfl ?_
          refine st9 _ ?_
          refine XS.dup X9.here hx rfl (hb hby at_146) rfl rfl ?_
          refine XS.iload X9.here hx rfl (hb hby at_147) rfl ?_
          refine XS.lload X9.here hx rfl (hb hby at_149) rfl ?_
          refine st10.trans ?_
          show Steps p.tables e below (T10.setTop (mkF m 154 #[vi p0, vl p1, ss, vl p2, ss, vl p3, ss, vi p4, vi v0, vl v1, ss, vl v2, ss, vl v3, ss, vi 0, va b4, vl 256, ss, vl v4, ss, vl v5, ss, vi 0, uu, uu, uu, uu, uu, uu, uu, uu, uu, uu] [(.ref b9)])) _
          refine XS.astore X10.here hx rfl (hb hby at_154) rfl rfl (l' := #[vi p0, vl p1, ss, vl p2, ss, vl p3, ss, vi p4, vi v0, vl v1, ss, vl v2, ss, vl v3, ss, vi 0, va b4, vl 256, ss, vl v4, ss, vl v5, ss, vi 0, va b9, uu, uu, uu, uu, uu, uu, uu, uu, uu]) rfl ?_
          refine XS.aload X10.here hx rfl (hb hby at_156) rfl rfl ?_
          refine st12.trans ?_
          show Steps p.tables e below (T12.setTop (mkF m 161 #[vi p0, vl p1, ss, vl p2, ss, vl p3, ss, vi p4, vi v0, vl v1, ss, vl v2, ss, vl v3, ss, vi 0, va b4, vl 256, ss, vl v4, ss, vl v5, ss, vi 0, va b9, uu, uu, uu, uu, uu, uu, uu, uu, uu] [(.long (((np_10.toInt64) * (8 : Int64)) + ((0 : Int64) * ((((ps_10.toInt64) * (v0.toInt64)) + ((ps_10 / (8 : Int32)).toInt64)) + (64 : Int64)))))])) _
          rw [← hv10]
          refine XS.lstore X12.here hx rfl (hb hby at_161) rfl (l' := #[vi p0, vl p1, ss, vl p2, ss, vl p3, ss, vi p4, vi v0, vl v1, ss, vl v2, ss, vl v3, ss, vi 0, va b4, vl 256, ss, vl v4, ss, vl v5, ss, vi 0, va b9, vl v10, ss, uu, uu, uu, uu, uu, uu, uu]) rfl ?_
          refine XS.lload X12.here hx rfl (hb hby at_163) rfl ?_
          refine XS.lload X12.here hx rfl (hb hby at_165) rfl ?_
          refine X12.ldc2Long hx hown (mvT hZ (ww hw 4 rfl)) (g := (mkF m 167 #[vi p0, vl p1, ss, vl p2, ss, vl p3, ss, vi p4, vi v0, vl v1, ss, vl v2, ss, vl v3, ss, vi 0, va b4, vl 256, ss, vl v4, ss, vl v5, ss, vi 0, va b9, vl v10, ss, uu, uu, uu, uu, uu, uu, uu] [(.long v4), (.long v10)])) rfl (hb hby at_167) _ ?_
          refine XS.lmul X12.here hx rfl (hb hby at_170) rfl ?_
          refine XS.lcmp X12.here hx rfl (hb hby at_171) rfl ?_
          refine XS.ifNo X12.here hx rfl (hb hby at_172) rfl (own_lc_eqT hc13).2 ?_
          refine XS.iconst X12.here hx rfl (hb hby at_175) ?_
          show Steps p.tables e below (T12.setTop (mkF m 176 #[vi p0, vl p1, ss, vl p2, ss, vl p3, ss, vi p4, vi v0, vl v1, ss, vl v2, ss, vl v3, ss, vi 0, va b4, vl 256, ss, vl v4, ss, vl v5, ss, vi 0, va b9, vl v10, ss, uu, uu, uu, uu, uu, uu, uu] [(.int 1)])) _
          refine XS.goto X12.here hx rfl (pc0 := 176) (pc' := 180) rfl (hb hby at_176) (by decide) (by decide) ?_
          refine XS.istore X12.here hx rfl (hb hby at_180) rfl (l' := #[vi p0, vl p1, ss, vl p2, ss, vl p3, ss, vi p4, vi v0, vl v1, ss, vl v2, ss, vl v3, ss, vi 0, va b4, vl 256, ss, vl v4, ss, vl v5, ss, vi 0, va b9, vl v10, ss, vi 1, uu, uu, uu, uu, uu, uu]) rfl ?_
          refine XS.aload X12.here hx rfl (hb hby at_182) rfl rfl ?_
          refine XS.lload X12.here hx rfl (hb hby at_184) rfl ?_
          refine XS.aload X12.here hx rfl (hb hby at_186) rfl rfl ?_
          refine st15.trans ?_
          refine XS.aload X15.here hx rfl (hb hby at_191) rfl rfl ?_
          refine st16.trans ?_
          show Steps p.tables e below (T16.setTop (mkF m 196 #[vi p0, vl p1, ss, vl p2, ss, vl p3, ss, vi p4, vi v0, vl v1, ss, vl v2, ss, vl v3, ss, vi 0, va b4, vl 256, ss, vl v4, ss, vl v5, ss, vi 0, va b9, vl v10, ss, vi 1, uu, uu, uu, uu, uu, uu] [(.long (((np_10.toInt64) * (8 : Int64)) + ((1 : Int64) * ((((ps_10.toInt64) * (v0.toInt64)) + ((ps_10 / (8 : Int32)).toInt64)) + (64 : Int64)))))])) _
          show Steps p.tables e below (T16.setTop (mkF m 196 #[vi p0, vl p1, ss, vl p2, ss, vl p3, ss, vi p4, vi v0, vl v1, ss, vl v2, ss, vl v3, ss, vi 0, va b4, vl 256, ss, vl v4, ss, vl v5, ss, vi 0, va b9, vl v10, ss, vi 1, uu, uu, uu, uu, uu, uu] [(.long (((np_10.toInt64) * (8 : Int64)) + ((1 : Int64) * ((((ps_10.toInt64) * (v0.toInt64)) + ((ps_10 / (8 : Int32)).toInt64)) + (64 : Int64)))))])) _
          rw [← hv11]
          refine XS.lstore X16.here hx rfl (hb hby at_196) rfl (l' := #[vi p0, vl p1, ss, vl p2, ss, vl p3, ss, vi p4, vi v0, vl v1, ss, vl v2, ss, vl v3, ss, vi 0, va b4, vl 256, ss, vl v4, ss, vl v5, ss, vi 0, va b9, vl v10, ss, vi 1, vl v11, ss, uu, uu, uu, uu]) rfl ?_
          refine XS.iload X16.here hx rfl (hb hby at_198) rfl ?_
          refine XS.ifNo X16.here hx rfl (hb hby at_200) rfl ((if0 _ _).trans (feq (by decide : ¬ ((1 : Int32) = (0 : Int32)))).1) ?_
          refine XS.lload X16.here hx rfl (hb hby at_203) rfl ?_
          refine XS.lload X16.here hx rfl (hb hby at_205) rfl ?_
          refine XS.lload X16.here hx rfl (hb hby at_207) rfl ?_
          refine XS.ladd X16.here hx rfl (hb hby at_209) rfl ?_
          refine XS.lcmp X16.here hx rfl (hb hby at_210) rfl ?_
          show Steps p.tables e below (T16.setTop (mkF m 211 #[vi p0, vl p1, ss, vl p2, ss, vl p3, ss, vi p4, vi v0, vl v1, ss, vl v2, ss, vl v3, ss, vi 0, va b4, vl 256, ss, vl v4, ss, vl v5, ss, vi 0, va b9, vl v10, ss, vi 1, vl v11, ss, uu, uu, uu, uu] [(.int (lcmpW v11 (v10 + v5)))])) _
          refine XS.ifNo X16.here hx rfl (hb hby at_211) rfl (own_lc_eqT hc17).2 ?_
          refine XS.iconst X16.here hx rfl (hb hby at_214) ?_
          refine XS.goto X16.here hx rfl (pc0 := 215) (pc' := 219) rfl (hb hby at_215) (by decide) (by decide) ?_
          refine XS.istore X16.here hx rfl (hb hby at_219) rfl (l' := #[vi p0, vl p1, ss, vl p2, ss, vl p3, ss, vi p4, vi v0, vl v1, ss, vl v2, ss, vl v3, ss, vi 0, va b4, vl 256, ss, vl v4, ss, vl v5, ss, vi 0, va b9, vl v10, ss, vi 1, vl v11, ss, uu, uu, uu, uu]) rfl ?_
          refine XS.iload X16.here hx rfl (hb hby at_221) rfl ?_
          refine XS.ifYes X16.here hx rfl (pc0 := 223) (pc' := 257) rfl (hb hby at_223) rfl ((if0 _ _).trans (teq (by decide : (0 : Int32) = (0 : Int32))).1) (by decide) (by decide) ?_
          refine XS.aload X16.here hx rfl (hb hby at_257) rfl rfl ?_
          refine XS.lload X16.here hx rfl (hb hby at_259) rfl ?_
          show Steps p.tables e below (T16.setTop (mkF m 261 #[vi p0, vl p1, ss, vl p2, ss, vl p3, ss, vi p4, vi v0, vl v1, ss, vl v2, ss, vl v3, ss, vi 0, va b4, vl 256, ss, vl v4, ss, vl v5, ss, vi 0, va b9, vl v10, ss, vi 1, vl v11, ss, uu, uu, uu, uu] [(.long v3), (.ref b9)])) _
          refine XS.aload X16.here hx rfl (hb hby at_261) rfl rfl ?_
          refine st19.trans ?_
          refine XS.aload X19.here hx rfl (hb hby at_266) rfl rfl ?_
          refine st20.trans ?_
          show Steps p.tables e below (T20.setTop (mkF m 271 #[vi p0, vl p1, ss, vl p2, ss, vl p3, ss, vi p4, vi v0, vl v1, ss, vl v2, ss, vl v3, ss, vi 0, va b4, vl 256, ss, vl v4, ss, vl v5, ss, vi 0, va b9, vl v10, ss, vi 1, vl v11, ss, uu, uu, uu, uu] [(.long (((np_10.toInt64) * (8 : Int64)) + ((2 : Int64) * ((((ps_10.toInt64) * (v0.toInt64)) + ((ps_10 / (8 : Int32)).toInt64)) + (64 : Int64)))))])) _
          rw [← hv12]
          refine XS.lstore X20.here hx rfl (hb hby at_271) rfl (l' := #[vi p0, vl p1, ss, vl p2, ss, vl p3, ss, vi p4, vi v0, vl v1, ss, vl v2, ss, vl v3, ss, vi 0, va b4, vl 256, ss, vl v4, ss, vl v5, ss, vi 0, va b9, vl v10, ss, vi 1, vl v11, ss, vl v12, ss, uu, uu]) rfl ?_
          refine XS.iload X20.here hx rfl (hb hby at_273) rfl ?_
          refine XS.ifYes X20.here hx rfl (pc0 := 275) (pc' := 286) rfl (hb hby at_275) rfl ((if0 _ _).trans (teq (by decide : (0 : Int32) = (0 : Int32))).1) (by decide) (by decide) ?_
          refine XS.lload X20.here hx rfl (hb hby at_286) rfl ?_
          refine X20.ldc2Long hx hown (mvT hZ (ww hw 145 rfl)) (g := (mkF m 288 #[vi p0, vl p1, ss, vl p2, ss, vl p3, ss, vi p4, vi v0, vl v1, ss, vl v2, ss, vl v3, ss, vi 0, va b4, vl 256, ss, vl v4, ss, vl v5, ss, vi 0, va b9, vl v10, ss, vi 1, vl v11, ss, vl v12, ss, uu, uu] [(.long v10)])) rfl (hb hby at_288) _ ?_
          refine XS.lload X20.here hx rfl (hb hby at_291) rfl ?_
          refine XS.lmul X20.here hx rfl (hb hby at_293) rfl ?_
          refine XS.ladd X20.here hx rfl (hb hby at_294) rfl ?_
          show Steps p.tables e below (T20.setTop (mkF m 295 #[vi p0, vl p1, ss, vl p2, ss, vl p3, ss, vi p4, vi v0, vl v1, ss, vl v2, ss, vl v3, ss, vi 0, va b4, vl 256, ss, vl v4, ss, vl v5, ss, vi 0, va b9, vl v10, ss, vi 1, vl v11, ss, vl v12, ss, uu, uu] [(.long (v10 + ((2 : Int64) * v5)))])) _
          show Steps p.tables e below (T20.setTop (mkF m 295 #[vi p0, vl p1, ss, vl p2, ss, vl p3, ss, vi p4, vi v0, vl v1, ss, vl v2, ss, vl v3, ss, vi 0, va b4, vl 256, ss, vl v4, ss, vl v5, ss, vi 0, va b9, vl v10, ss, vi 1, vl v11, ss, vl v12, ss, uu, uu] [(.long (v10 + ((2 : Int64) * v5)))])) _
          rw [← hv13]
          refine XS.lstore X20.here hx rfl (hb hby at_295) rfl (l' := #[vi p0, vl p1, ss, vl p2, ss, vl p3, ss, vi p4, vi v0, vl v1, ss, vl v2, ss, vl v3, ss, vi 0, va b4, vl 256, ss, vl v4, ss, vl v5, ss, vi 0, va b9, vl v10, ss, vi 1, vl v11, ss, vl v12, ss, vl v13, ss]) rfl ?_
          refine XS.iload X20.here hx rfl (hb hby at_297) rfl ?_
          refine XS.ifNo X20.here hx rfl (hb hby at_299) rfl ((if0 _ _).trans (feq (by decide : ¬ ((1 : Int32) = (0 : Int32)))).1) ?_
          refine XS.lload X20.here hx rfl (hb hby at_302) rfl ?_
          refine XS.lload X20.here hx rfl (hb hby at_304) rfl ?_
          refine XS.lcmp X20.here hx rfl (hb hby at_306) rfl ?_
          refine XS.ifNo X20.here hx rfl (hb hby at_307) rfl (own_lc_eqT hc21).2 ?_
          refine XS.iconst X20.here hx rfl (hb hby at_310) ?_
          show Steps p.tables e below (T20.setTop (mkF m 311 #[vi p0, vl p1, ss, vl p2, ss, vl p3, ss, vi p4, vi v0, vl v1, ss, vl v2, ss, vl v3, ss, vi 0, va b4, vl 256, ss, vl v4, ss, vl v5, ss, vi 0, va b9, vl v10, ss, vi 1, vl v11, ss, vl v12, ss, vl v13, ss] [(.int 1)])) _
          refine XS.goto X20.here hx rfl (pc0 := 311) (pc' := 315) rfl (hb hby at_311) (by decide) (by decide) ?_
          exact retN X20 hx (t := .boolean) hrt (by simp) (hb hby at_315) hr
        · show Q0 n0 (some (.int 1)) T20.heap _
          exact (⟨rfl, N20⟩)
    · obtain ⟨v14, hv14⟩ : ∃ z : Int64, z = (((v1 * (v0.toInt64)) + (v1 / (8 : Int64))) + (64 : Int64)) := ⟨_, rfl⟩
      obtain ⟨T7, h7, X7, e7, E7, A7, D7, -, st7⟩ := newO X4 hx hZ hown (ww hw 6 rfl) (ww hw 7 rfl) (ww hw 8 rfl) e4 (g := (mkF m 143 #[vi p0, vl p1, ss, vl p2, ss, vl p3, ss, vi p4, vi v0, vl v1, ss, vl v2, ss, vl v3, ss, vi 0, va b4, vl v1, ss, vl 1, ss, vl v14, ss, vi 1, uu, uu, uu, uu, uu, uu, uu, uu, uu, uu] [])) rfl (hb hby at_143) (by decide) (by decide)
      obtain ⟨b7, qs7⟩ : ∃ z, z = h4.size := ⟨_, rfl⟩
      rw [← qs7] at A7 D7 st7
      have ne_b4_b7 : b4 ≠ b7 := Nat.ne_of_lt (Nat.lt_of_lt_of_le V_b4.lt (Nat.le_of_eq qs7.symm))
      have g_b7 : n0 ≤ b7 := Nat.le_trans (own_old O4) (Nat.le_of_eq qs7.symm)
      have sz_b7 : h0.size ≤ b7 := Nat.le_trans K4.1 (Nat.le_of_eq qs7.symm)
      have O7 := O4.ext E7
      have K7 : Keep h0 h7 [] := K4.ext E7
      have F_length_b7 : Fld Z h7 b7 sC0 "length" "I" (.int 0) := D7 (Or.inr (ww hw 16 rfl)) (ty := .int) (by decide)
      have F_pageSlots_b7 : Fld Z h7 b7 sC0 "pageSlots" "I" (.int 0) := D7 (Or.inr (ww hw 23 rfl)) (ty := .int) (by decide)
      have F_pages_b7 : Fld Z h7 b7 sC0 "pages" "[Lcom/example/tributary/tributary/model/NodeHashes$Page;" .null := D7 (Or.inr (ww hw 30 rfl)) (ty := (.array (.object sC2))) (by decide)
      have F_pagesMade_b7 : Fld Z h7 b7 sC0 "pagesMade" "I" (.int 0) := D7 (Or.inl (ww hw 38 rfl)) (ty := .int) (by decide)
      have F_held_b7 : Fld Z h7 b7 sC0 "held" "J" (.long 0) := D7 (Or.inl (ww hw 111 rfl)) (ty := .long) (by decide)
      have hS := own_LS hv1
      obtain ⟨_, _, ⟨T8, L8, k8, n8⟩, -, X8, ⟨Lc8, hQ8, l8, y8, z8⟩, st8⟩ := X7.specialBack hx (y := My1) rfl hown (mvT hZ (ww hw 9 rfl)) (mvT hZ (ww hw 10 rfl)) (mvT hZ (ww hw 11 rfl)) (by decide) (backOf (W := 1) (rm1_0 l Z a0 hw []  b7 v0 v1 h7 n0 O7 S A7 F_held_b7 F_length_b7 F_pageSlots_b7 F_pages_b7 F_pagesMade_b7 g_b7 hS) hZ (ww hw 11 rfl) (ww hw 8 rfl) (by decide) (by decide)) (g := (mkF m 151 #[vi p0, vl p1, ss, vl p2, ss, vl p3, ss, vi p4, vi v0, vl v1, ss, vl v2, ss, vl v3, ss, vi 0, va b4, vl v1, ss, vl 1, ss, vl v14, ss, vi 1, uu, uu, uu, uu, uu, uu, uu, uu, uu, uu] [(.long v1), (.int v0), (.ref b7), (.ref b7)])) rfl (by rw [hml]; rfl) (Steps.refl _) (a := b7) (argsL := [(.int v0), (.long v1)]) (rest := [(.ref b7)]) (lenOf pd_2 rfl) rfl (by show 2 * 0 + _ ≤ _; exact Nat.le_of_eq rfl) (hb hby at_151) (fun _ _ => ⟨rfl, e7, (by decide : 2 + 1 ≤ _), (by decide : 69 + 256 ≤ _)⟩)
      dsimp only [Pt.U, Pt.locs, Pt.cells, Pt.slots] at X8 l8 y8 z8 st8 hQ8
      subst l8 y8 z8
      have fc9 := (V_b4.ext E7)
      obtain ⟨b13_8, ps_8, np_8, rfl, Nq8, Kc8, P0_8, P1_8, P2_8, P3_8, P4_8, P5_8, P6_8, P7_8, np0_8⟩ := hQ8
      have N8 := Fr.app N0 Nq8
      have ne_b4_b13_8 : b4 ≠ b13_8 := Nat.ne_of_lt (Nat.lt_of_lt_of_le fc9.lt P7_8)
      have ne_b7_b13_8 : b7 ≠ b13_8 := Nat.ne_of_lt (Nat.lt_of_lt_of_le A7.lt P7_8)
      have g_b13_8 : n0 ≤ b13_8 := Nat.le_trans (own_old O7) P7_8
      have sz_b13_8 : h0.size ≤ b13_8 := Nat.le_trans K7.1 P7_8
      have O8 := O7.keep Kc8 (allS g_b7 all0)
      have K8 : Keep h0 T8.heap [] := K7.trans Kc8 (allS (Or.inr sz_b7) all0)
      have hIN := np0_8
      have hNP := own_LP (own_Ll hv0) hS hIN
      have hSa := own_LSL hS hIN (own_La hS hv2)
      have hSb := own_LSL hS hIN (own_La hS hv3)
      have hFT := own_LFT hS hIN
      obtain ⟨cq10, kq10, q10a, q10b, q10c⟩ := isOf hZ rfl P0_8
      obtain ⟨_, _, ⟨T10, L10, k10, n10⟩, -, X10, ⟨Lc10, hQ10, l10, y10, z10⟩, st10⟩ := X8.virtualBack hx (y := My5) (z := My5) hown (mvT hZ (ww hw 31 rfl)) (mvT hZ (ww hw 32 rfl)) (notFace_of_selects (args := #[]) (mvT hZ (ww hw 34 rfl))) (mvT hZ (ww hw 34 rfl)) (mvT hZ (ww hw 33 rfl)) (by decide) (backOf (W := 0) (rm5_0 l Z a0 hw []  b7 b13_8 (0 : Int64) v0 ps_8 np_8 T8.heap n0 O8 S P2_8 P3_8 P4_8 P5_8 P6_8) hZ (ww hw 35 rfl) (ww hw 8 rfl) (by decide) (by decide)) q10a q10c (g := (mkF m 158 #[vi p0, vl p1, ss, vl p2, ss, vl p3, ss, vi p4, vi v0, vl v1, ss, vl v2, ss, vl v3, ss, vi 0, va b4, vl v1, ss, vl 1, ss, vl v14, ss, vi 1, va b7, uu, uu, uu, uu, uu, uu, uu, uu, uu] [(.ref b7)])) rfl (by rw [hml]; rfl) (Steps.refl _) (argsL := []) (rest := []) (lenOf pd_3 rfl) rfl (by show 2 * 0 + _ ≤ _; exact Nat.le_of_eq rfl) (hb hby at_158) (fun _ _ => ⟨rfl, rfl, (by decide : 3 + 0 ≤ _), (by decide : 325 + 0 ≤ _)⟩)
      dsimp only [Pt.U, Pt.locs, Pt.cells, Pt.slots] at X10 l10 y10 z10 st10 hQ10
      subst l10 y10 z10
      obtain ⟨rfl, Nq10, e10⟩ := hQ10
      have N10 := Fr.app N8 Nq10
      obtain ⟨v15, hv15⟩ : ∃ z : Int64, z = (((np_8.toInt64) * (8 : Int64)) + ((0 : Int64) * ((((ps_8.toInt64) * (v0.toInt64)) + ((ps_8 / (8 : Int32)).toInt64)) + (64 : Int64)))) := ⟨_, rfl⟩
      have hc11 : v15 = (8 : Int64) := ((own_Lb0 (w := (1 : Int64)) hS hIN hv15 (Or.inl ⟨hc5, rfl⟩)).trans (by decide))
      have fc12 := (fc9.keep Kc8 (ninS ne_b4_b7 nin0))
      obtain ⟨cq13, kq13, q13a, q13b, q13c⟩ := isOf hZ e10 P0_8
      obtain ⟨_, _, ⟨T13, L13, k13, n13⟩, -, X13, ⟨Lc13, hQ13, l13, y13, z13⟩, st13⟩ := X10.virtualBack hx (y := My6) (z := My6) hown (mvT hZ (ww hw 40 rfl)) (mvT hZ (ww hw 41 rfl)) (notFace_of_selects (args := #[]) (mvT hZ (ww hw 43 rfl))) (mvT hZ (ww hw 43 rfl)) (mvT hZ (ww hw 42 rfl)) (by decide) (backOf (W := 0) (rm6_0 l Z a0 hw []  b7 b13_8 b4 (0 : Int64) v0 ps_8 np_8 v2 T8.heap n0 O8 S P0_8 P1_8 P2_8 P3_8 P4_8 P5_8 P6_8 fc12 ne_b7_b13_8 (Ne.symm ne_b4_b7) (Ne.symm ne_b4_b13_8) g_b7 g_b13_8 hNP hSa) hZ (ww hw 44 rfl) (ww hw 8 rfl) (by decide) (by decide)) q13a q13c (g := (mkF m 188 #[vi p0, vl p1, ss, vl p2, ss, vl p3, ss, vi p4, vi v0, vl v1, ss, vl v2, ss, vl v3, ss, vi 0, va b4, vl v1, ss, vl 1, ss, vl v14, ss, vi 1, va b7, vl v15, ss, vi 1, uu, uu, uu, uu, uu, uu] [(.ref b4), (.long v2), (.ref b7)])) rfl (by rw [hml]; rfl) (Steps.refl _) (argsL := [(.long v2), (.ref b4)]) (rest := []) (lenOf pd_9 rfl) rfl (by show 2 * 0 + _ ≤ _; exact Nat.le_of_eq rfl) (hb hby at_188) (fun _ _ => ⟨rfl, e10, (by decide : 3 + 4 ≤ _), (by decide : 325 + 16137 ≤ _)⟩)
      dsimp only [Pt.U, Pt.locs, Pt.cells, Pt.slots] at X13 l13 y13 z13 st13 hQ13
      subst l13 y13 z13
      obtain ⟨b4_13, b3_9_13, b9_9_13, b3_10_10_9_13, hv_13, u_13, rfl, Nq13, Kc13, P0_13, P1_13, P2_13, P3_13, P4_13, P5_13, P6_13, P7_13, P8_13, P9_13, P10_13, P11_13, P12_13, P13_13, P14_13, P15_13, P16_13, P17_13, P18_13, P19_13, P20_13, P21_13, P22_13, P23_13, P24_13, np0_13⟩ := hQ13
      have N13 := Fr.app N10 Nq13
      have ne_b4_b4_13 : b4 ≠ b4_13 := Nat.ne_of_lt (Nat.lt_of_lt_of_le fc12.lt P15_13)
      have ne_b7_b4_13 : b7 ≠ b4_13 := Nat.ne_of_lt (Nat.lt_of_lt_of_le P0_8.lt P15_13)
      have ne_b13_8_b4_13 : b13_8 ≠ b4_13 := Nat.ne_of_lt (Nat.lt_of_lt_of_le P6_8.lt P15_13)
      have ne_b4_b3_9_13 : b4 ≠ b3_9_13 := Nat.ne_of_lt (Nat.lt_of_lt_of_le fc12.lt P16_13)
      have ne_b7_b3_9_13 : b7 ≠ b3_9_13 := Nat.ne_of_lt (Nat.lt_of_lt_of_le P0_8.lt P16_13)
      have ne_b13_8_b3_9_13 : b13_8 ≠ b3_9_13 := Nat.ne_of_lt (Nat.lt_of_lt_of_le P6_8.lt P16_13)
      have ne_b4_b9_9_13 : b4 ≠ b9_9_13 := Nat.ne_of_lt (Nat.lt_of_lt_of_le fc12.lt P17_13)
      have ne_b7_b9_9_13 : b7 ≠ b9_9_13 := Nat.ne_of_lt (Nat.lt_of_lt_of_le P0_8.lt P17_13)
      have ne_b13_8_b9_9_13 : b13_8 ≠ b9_9_13 := Nat.ne_of_lt (Nat.lt_of_lt_of_le P6_8.lt P17_13)
      have ne_b4_b3_10_10_9_13 : b4 ≠ b3_10_10_9_13 := Nat.ne_of_lt (Nat.lt_of_lt_of_le fc12.lt P18_13)
      have ne_b7_b3_10_10_9_13 : b7 ≠ b3_10_10_9_13 := Nat.ne_of_lt (Nat.lt_of_lt_of_le P0_8.lt P18_13)
      have ne_b13_8_b3_10_10_9_13 : b13_8 ≠ b3_10_10_9_13 := Nat.ne_of_lt (Nat.lt_of_lt_of_le P6_8.lt P18_13)
      have g_b4_13 : n0 ≤ b4_13 := Nat.le_trans (own_old O8) P15_13
      have sz_b4_13 : h0.size ≤ b4_13 := Nat.le_trans K8.1 P15_13
      have g_b3_9_13 : n0 ≤ b3_9_13 := Nat.le_trans (own_old O8) P16_13
      have sz_b3_9_13 : h0.size ≤ b3_9_13 := Nat.le_trans K8.1 P16_13
      have g_b9_9_13 : n0 ≤ b9_9_13 := Nat.le_trans (own_old O8) P17_13
      have sz_b9_9_13 : h0.size ≤ b9_9_13 := Nat.le_trans K8.1 P17_13
      have g_b3_10_10_9_13 : n0 ≤ b3_10_10_9_13 := Nat.le_trans (own_old O8) P18_13
      have sz_b3_10_10_9_13 : h0.size ≤ b3_10_10_9_13 := Nat.le_trans K8.1 P18_13
      have O13 := O8.keep Kc13 (allS g_b7 (allS g_b13_8 all0))
      have K13 : Keep h0 T13.heap [] := K8.trans Kc13 (allS (Or.inr sz_b7) (allS (Or.inr sz_b13_8) all0))
      obtain ⟨cq14, kq14, q14a, q14b, q14c⟩ := isOf hZ rfl P0_13
      obtain ⟨_, _, ⟨T14, L14, k14, n14⟩, -, X14, ⟨Lc14, hQ14, l14, y14, z14⟩, st14⟩ := X13.virtualBack hx (y := My5) (z := My5) hown (mvT hZ (ww hw 31 rfl)) (mvT hZ (ww hw 32 rfl)) (notFace_of_selects (args := #[]) (mvT hZ (ww hw 34 rfl))) (mvT hZ (ww hw 34 rfl)) (mvT hZ (ww hw 33 rfl)) (by decide) (backOf (W := 0) (rm5_1 l Z a0 hw []  b7 b13_8 b4_13 b3_9_13 b9_9_13 b3_10_10_9_13 hv_13 v0 ps_8 np_8 ((v2 / (ps_8.toInt64)).toInt32) (ps_8 * v0) u_13 (((ps_8 - (1 : Int32)) >>> ((6 : Int32) &&& 31)) + (1 : Int32)) T13.heap n0 O13 S P2_13 P3_13 P4_13 P5_13 P6_13) hZ (ww hw 35 rfl) (ww hw 8 rfl) (by decide) (by decide)) q14a q14c (g := (mkF m 193 #[vi p0, vl p1, ss, vl p2, ss, vl p3, ss, vi p4, vi v0, vl v1, ss, vl v2, ss, vl v3, ss, vi 0, va b4, vl v1, ss, vl 1, ss, vl v14, ss, vi 1, va b7, vl v15, ss, vi 1, uu, uu, uu, uu, uu, uu] [(.ref b7)])) rfl (by rw [hml]; rfl) (Steps.refl _) (argsL := []) (rest := []) (lenOf pd_3 rfl) rfl (by show 2 * 0 + _ ≤ _; exact Nat.le_of_eq rfl) (hb hby at_193) (fun _ _ => ⟨rfl, rfl, (by decide : 7 + 0 ≤ _), (by decide : 16462 + 0 ≤ _)⟩)
      dsimp only [Pt.U, Pt.locs, Pt.cells, Pt.slots] at X14 l14 y14 z14 st14 hQ14
      subst l14 y14 z14
      obtain ⟨rfl, Nq14, e14⟩ := hQ14
      have N14 := Fr.app N13 Nq14
      obtain ⟨v16, hv16⟩ : ∃ z : Int64, z = (((np_8.toInt64) * (8 : Int64)) + ((1 : Int64) * ((((ps_8.toInt64) * (v0.toInt64)) + ((ps_8 / (8 : Int32)).toInt64)) + (64 : Int64)))) := ⟨_, rfl⟩
      have hc15 : v16 = (v15 + v14) := (own_Lb1 hS hIN hNP hv15 hv16 hv14 (Or.inl ⟨hc5, rfl, rfl⟩))
      have fc16 := (fc12.keep Kc13 (ninS ne_b4_b7 (ninS ne_b4_b13_8 nin0)))
      obtain ⟨cq17, kq17, q17a, q17b, q17c⟩ := isOf hZ e14 P0_13
      obtain ⟨_, _, ⟨T17, L17, k17, n17⟩, -, X17, ⟨Lc17, hQ17, l17, y17, z17⟩, st17⟩ := X14.virtualBack hx (y := My6) (z := My6) hown (mvT hZ (ww hw 40 rfl)) (mvT hZ (ww hw 41 rfl)) (notFace_of_selects (args := #[]) (mvT hZ (ww hw 43 rfl))) (mvT hZ (ww hw 43 rfl)) (mvT hZ (ww hw 42 rfl)) (by decide) (backOf (W := 0) (rm6_1 l Z a0 hw []  b7 b13_8 b4_13 b3_9_13 b9_9_13 b3_10_10_9_13 b4 hv_13 v0 ps_8 np_8 ((v2 / (ps_8.toInt64)).toInt32) (ps_8 * v0) u_13 (((ps_8 - (1 : Int32)) >>> ((6 : Int32) &&& 31)) + (1 : Int32)) v3 T13.heap n0 O13 S P0_13 P1_13 P2_13 P3_13 P4_13 P5_13 P6_13 P7_13 P8_13 P9_13 P10_13 P11_13 P12_13 P13_13 P14_13 fc16 ne_b7_b3_9_13 ne_b7_b9_9_13 ne_b7_b3_10_10_9_13 ne_b13_8_b3_9_13 P19_13 P22_13 P23_13 (Ne.symm ne_b4_b3_9_13) P24_13 g_b7 g_b3_9_13 g_b9_9_13 g_b3_10_10_9_13 hNP hSb (own_Lj1 hS hIN (own_La hS hv2) (own_La hS hv3) (Or.inl hc5)) rfl rfl np0_13) hZ (ww hw 44 rfl) (ww hw 8 rfl) (by decide) (by decide)) q17a q17c (g := (mkF m 263 #[vi p0, vl p1, ss, vl p2, ss, vl p3, ss, vi p4, vi v0, vl v1, ss, vl v2, ss, vl v3, ss, vi 0, va b4, vl v1, ss, vl 1, ss, vl v14, ss, vi 1, va b7, vl v15, ss, vi 1, vl v16, ss, uu, uu, uu, uu] [(.ref b4), (.long v3), (.ref b7)])) rfl (by rw [hml]; rfl) (Steps.refl _) (argsL := [(.long v3), (.ref b4)]) (rest := []) (lenOf pd_9 rfl) rfl (by show 2 * 0 + _ ≤ _; exact Nat.le_of_eq rfl) (hb hby at_263) (fun _ _ => ⟨rfl, e14, (by decide : 7 + 0 ≤ _), (by decide : 16462 + 0 ≤ _)⟩)
      dsimp only [Pt.U, Pt.locs, Pt.cells, Pt.slots] at X17 l17 y17 z17 st17 hQ17
      subst l17 y17 z17
      obtain ⟨hv_17, u_17, rfl, Nq17, Kc17, P0_17, P1_17, P2_17, P3_17, P4_17, P5_17, P6_17, P7_17, P8_17, P9_17, P10_17, np0_17⟩ := hQ17
      have N17 := Fr.app N14 Nq17
      have O17 := O13.keep Kc17 (allS g_b7 (allS g_b3_9_13 (allS g_b9_9_13 (allS g_b3_10_10_9_13 all0))))
      have K17 : Keep h0 T17.heap [] := K13.trans Kc17 (allS (Or.inr sz_b7) (allS (Or.inr sz_b3_9_13) (allS (Or.inr sz_b9_9_13) (allS (Or.inr sz_b3_10_10_9_13) all0))))
      have fc18 := (P6_13.keep Kc17 (ninS (Ne.symm ne_b7_b13_8) (ninS ne_b13_8_b3_9_13 (ninS ne_b13_8_b9_9_13 (ninS ne_b13_8_b3_10_10_9_13 nin0)))))
      obtain ⟨cq19, kq19, q19a, q19b, q19c⟩ := isOf hZ rfl P0_17
      obtain ⟨_, _, ⟨T19, L19, k19, n19⟩, -, X19, ⟨Lc19, hQ19, l19, y19, z19⟩, st19⟩ := X17.virtualBack hx (y := My5) (z := My5) hown (mvT hZ (ww hw 31 rfl)) (mvT hZ (ww hw 32 rfl)) (notFace_of_selects (args := #[]) (mvT hZ (ww hw 34 rfl))) (mvT hZ (ww hw 34 rfl)) (mvT hZ (ww hw 33 rfl)) (by decide) (backOf (W := 0) (rm5_1 l Z a0 hw []  b7 b13_8 b4_13 b3_9_13 b9_9_13 b3_10_10_9_13 hv_17 v0 ps_8 np_8 ((v2 / (ps_8.toInt64)).toInt32) (ps_8 * v0) u_17 (((ps_8 - (1 : Int32)) >>> ((6 : Int32) &&& 31)) + (1 : Int32)) T17.heap n0 O17 S P2_17 P3_17 P4_17 P5_17 fc18) hZ (ww hw 35 rfl) (ww hw 8 rfl) (by decide) (by decide)) q19a q19c (g := (mkF m 268 #[vi p0, vl p1, ss, vl p2, ss, vl p3, ss, vi p4, vi v0, vl v1, ss, vl v2, ss, vl v3, ss, vi 0, va b4, vl v1, ss, vl 1, ss, vl v14, ss, vi 1, va b7, vl v15, ss, vi 1, vl v16, ss, uu, uu, uu, uu] [(.ref b7)])) rfl (by rw [hml]; rfl) (Steps.refl _) (argsL := []) (rest := []) (lenOf pd_3 rfl) rfl (by show 2 * 0 + _ ≤ _; exact Nat.le_of_eq rfl) (hb hby at_268) (fun _ _ => ⟨rfl, rfl, (by decide : 7 + 0 ≤ _), (by decide : 16462 + 0 ≤ _)⟩)
      dsimp only [Pt.U, Pt.locs, Pt.cells, Pt.slots] at X19 l19 y19 z19 st19 hQ19
      subst l19 y19 z19
      obtain ⟨rfl, Nq19, e19⟩ := hQ19
      have N19 := Fr.app N17 Nq19
      obtain ⟨v17, hv17⟩ : ∃ z : Int64, z = (((np_8.toInt64) * (8 : Int64)) + ((1 : Int64) * ((((ps_8.toInt64) * (v0.toInt64)) + ((ps_8 / (8 : Int32)).toInt64)) + (64 : Int64)))) := ⟨_, rfl⟩
      obtain ⟨v18, hv18⟩ : ∃ z : Int64, z = (v15 + v14) := ⟨_, rfl⟩
      have hc20 : v17 = v18 := (own_Lb2 hS hIN hNP hv15 hv17 hv14 hv18 (Or.inl ⟨hc5, rfl, rfl⟩))
      obtain ⟨fs, hr, hrun, hended, hW, hsame⟩ := X19.leave (v := (some (.int 1))) (fun h => by rw [hrt] at h; cases h) hlk
      refine ⟨_, _, pre_6 _ ?_, hrun, hended, _, _, rfl, ?_, ⟨_, rfl⟩, hW, hsame.mono (by decide) (by decide)⟩
      · show Steps p.tables e below (T4.setTop (mkF m 62 #[vi p0, vl p1, ss, vl p2, ss, vl p3, ss, vi p4, vi v0, vl v1, ss, vl v2, ss, vl v3, ss, vi 0, va b4, uu, uu, uu, uu, uu, uu, uu, uu, uu, uu, uu, uu, uu, uu, uu, uu, uu] [(.int (lcmpW v1 (256 : Int64)))])) _
        refine XS.ifNo X4.here hx rfl (hb hby at_62) rfl (own_lc_gtF hc5).1 ?_
        refine XS.lload X4.here hx rfl (hb hby at_65) rfl ?_
        refine XS.lstore X4.here hx rfl (hb hby at_67) rfl (l' := #[vi p0, vl p1, ss, vl p2, ss, vl p3, ss, vi p4, vi v0, vl v1, ss, vl v2, ss, vl v3, ss, vi 0, va b4, vl v1, ss, uu, uu, uu, uu, uu, uu, uu, uu, uu, uu, uu, uu, uu, uu, uu]) rfl ?_
        refine XS.lconst X4.here hx rfl (hb hby at_69) ?_
        refine XS.lstore X4.here hx rfl (hb hby at_70) rfl (l' := #[vi p0, vl p1, ss, vl p2, ss, vl p3, ss, vi p4, vi v0, vl v1, ss, vl v2, ss, vl v3, ss, vi 0, va b4, vl v1, ss, vl 1, ss, uu, uu, uu, uu, uu, uu, uu, uu, uu, uu, uu, uu, uu]) rfl ?_
        refine XS.goto X4.here hx rfl (pc0 := 72) (pc' := 92) rfl (hb hby at_72) (by decide) (by decide) ?_
        refine XS.lload X4.here hx rfl (hb hby at_92) rfl ?_
        refine XS.iload X4.here hx rfl (hb hby at_94) rfl ?_
        show Steps p.tables e below (T4.setTop (mkF m 96 #[vi p0, vl p1, ss, vl p2, ss, vl p3, ss, vi p4, vi v0, vl v1, ss, vl v2, ss, vl v3, ss, vi 0, va b4, vl v1, ss, vl 1, ss, uu, uu, uu, uu, uu, uu, uu, uu, uu, uu, uu, uu, uu] [(.int v0), (.long v1)])) _
        refine XS.i2l X4.here hx rfl (hb hby at_96) rfl ?_
        refine XS.lmul X4.here hx rfl (hb hby at_97) rfl ?_
        refine XS.lload X4.here hx rfl (hb hby at_98) rfl ?_
        refine X4.ldc2Long hx hown (mvT hZ (ww hw 4 rfl)) (g := (mkF m 100 #[vi p0, vl p1, ss, vl p2, ss, vl p3, ss, vi p4, vi v0, vl v1, ss, vl v2, ss, vl v3, ss, vi 0, va b4, vl v1, ss, vl 1, ss, uu, uu, uu, uu, uu, uu, uu, uu, uu, uu, uu, uu, uu] [(.long v1), (.long (v1 * (v0.toInt64)))])) rfl (hb hby at_100) _ ?_
        refine XS.ldiv X4.here hx rfl (hb hby at_103) rfl (by decide) ?_
        refine XS.ladd X4.here hx rfl (hb hby at_104) rfl ?_
        refine X4.ldc2Long hx hown (mvT hZ (ww hw 5 rfl)) (g := (mkF m 105 #[vi p0, vl p1, ss, vl p2, ss, vl p3, ss, vi p4, vi v0, vl v1, ss, vl v2, ss, vl v3, ss, vi 0, va b4, vl v1, ss, vl 1, ss, uu, uu, uu, uu, uu, uu, uu, uu, uu, uu, uu, uu, uu] [(.long ((v1 * (v0.toInt64)) + (v1 / (8 : Int64))))])) rfl (hb hby at_105) _ ?_
        refine XS.ladd X4.here hx rfl (hb hby at_108) rfl ?_
        show Steps p.tables e below (T4.setTop (mkF m 109 #[vi p0, vl p1, ss, vl p2, ss, vl p3, ss, vi p4, vi v0, vl v1, ss, vl v2, ss, vl v3, ss, vi 0, va b4, vl v1, ss, vl 1, ss, uu, uu, uu, uu, uu, uu, uu, uu, uu, uu, uu, uu, uu] [(.long (((v1 * (v0.toInt64)) + (v1 / (8 : Int64))) + (64 : Int64)))])) _
        show Steps p.tables e below (T4.setTop (mkF m 109 #[vi p0, vl p1, ss, vl p2, ss, vl p3, ss, vi p4, vi v0, vl v1, ss, vl v2, ss, vl v3, ss, vi 0, va b4, vl v1, ss, vl 1, ss, uu, uu, uu, uu, uu, uu, uu, uu, uu, uu, uu, uu, uu] [(.long (((v1 * (v0.toInt64)) + (v1 / (8 : Int64))) + (64 : Int64)))])) _
        rw [← hv14]
        refine XS.lstore X4.here hx rfl (hb hby at_109) rfl (l' := #[vi p0, vl p1, ss, vl p2, ss, vl p3, ss, vi p4, vi v0, vl v1, ss, vl v2, ss, vl v3, ss, vi 0, va b4, vl v1, ss, vl 1, ss, vl v14, ss, uu, uu, uu, uu, uu, uu, uu, uu, uu, uu, uu]) rfl ?_
        refine XS.lload X4.here hx rfl (hb hby at_111) rfl ?_
        refine X4.ldc2Long hx hown (mvT hZ (ww hw 3 rfl)) (g := (mkF m 113 #[vi p0, vl p1, ss, vl p2, ss, vl p3, ss, vi p4, vi v0, vl v1, ss, vl v2, ss, vl v3, ss, vi 0, va b4, vl v1, ss, vl 1, ss, vl v14, ss, uu, uu, uu, uu, uu, uu, uu, uu, uu, uu, uu] [(.long v1)])) rfl (hb hby at_113) _ ?_
        refine XS.lcmp X4.here hx rfl (hb hby at_116) rfl ?_
        refine XS.ifYes X4.here hx rfl (pc0 := 117) (pc' := 136) rfl (hb hby at_117) rfl (own_lc_gtF hc5).2 (by decide) (by decide) ?_
        refine XS.iconst X4.here hx rfl (hb hby at_136) ?_
        refine XS.goto X4.here hx rfl (pc0 := 137) (pc' := 141) rfl (hb hby at_137) (by decide) (by decide) ?_
        refine XS.istore X4.here hx rfl (hb hby at_141) rfl (l' := #[vi p0, vl p1, ss, vl p2, ss, vl p3, ss, vi p4, vi v0, vl v1, ss, vl v2, ss, vl v3, ss, vi 0, va b4, vl v1, ss, vl 1, ss, vl v14, ss, vi 1, uu, uu, uu, uu, uu, uu, uu, uu, uu, uu]) rfl ?_
        show Steps p.tables e below (T4.setTop (mkF m 143 #[vi p0, vl p1, ss, vl p2, ss, vl p3, ss, vi p4, vi v0, vl v1, ss, vl v2, ss, vl v3, ss, vi 0, va b4, vl v1, ss, vl 1, ss, vl v14, ss, vi 1, uu, uu, uu, uu, uu, uu, uu, uu, uu, uu] [])) _
        refine st7 _ ?_
        refine XS.dup X7.here hx rfl (hb hby at_146) rfl rfl ?_
        refine XS.iload X7.here hx rfl (hb hby at_147) rfl ?_
        refine XS.lload X7.here hx rfl (hb hby at_149) rfl ?_
        refine st8.trans ?_
        refine XS.astore X8.here hx rfl (hb hby at_154) rfl rfl (l' := #[vi p0, vl p1, ss, vl p2, ss, vl p3, ss, vi p4, vi v0, vl v1, ss, vl v2, ss, vl v3, ss, vi 0, va b4, vl v1, ss, vl 1, ss, vl v14, ss, vi 1, va b7, uu, uu, uu, uu, uu, uu, uu, uu, uu]) rfl ?_
        refine XS.aload X8.here hx rfl (hb hby at_156) rfl rfl ?_
        refine st10.trans ?_
        show Steps p.tables e below (T10.setTop (mkF m 161 #[vi p0, vl p1, ss, vl p2, ss, vl p3, ss, vi p4, vi v0, vl v1, ss, vl v2, ss, vl v3, ss, vi 0, va b4, vl v1, ss, vl 1, ss, vl v14, ss, vi 1, va b7, uu, uu, uu, uu, uu, uu, uu, uu, uu] [(.long (((np_8.toInt64) * (8 : Int64)) + ((0 : Int64) * ((((ps_8.toInt64) * (v0.toInt64)) + ((ps_8 / (8 : Int32)).toInt64)) + (64 : Int64)))))])) _
        show Steps p.tables e below (T10.setTop (mkF m 161 #[vi p0, vl p1, ss, vl p2, ss, vl p3, ss, vi p4, vi v0, vl v1, ss, vl v2, ss, vl v3, ss, vi 0, va b4, vl v1, ss, vl 1, ss, vl v14, ss, vi 1, va b7, uu, uu, uu, uu, uu, uu, uu, uu, uu] [(.long (((np_8.toInt64) * (8 : Int64)) + ((0 : Int64) * ((((ps_8.toInt64) * (v0.toInt64)) + ((ps_8 / (8 : Int32)).toInt64)) + (64 : Int64)))))])) _
        rw [← hv15]
        refine XS.lstore X10.here hx rfl (hb hby at_161) rfl (l' := #[vi p0, vl p1, ss, vl p2, ss, vl p3, ss, vi p4, vi v0, vl v1, ss, vl v2, ss, vl v3, ss, vi 0, va b4, vl v1, ss, vl 1, ss, vl v14, ss, vi 1, va b7, vl v15, ss, uu, uu, uu, uu, uu, uu, uu]) rfl ?_
        refine XS.lload X10.here hx rfl (hb hby at_163) rfl ?_
        refine XS.lload X10.here hx rfl (hb hby at_165) rfl ?_
        refine X10.ldc2Long hx hown (mvT hZ (ww hw 4 rfl)) (g := (mkF m 167 #[vi p0, vl p1, ss, vl p2, ss, vl p3, ss, vi p4, vi v0, vl v1, ss, vl v2, ss, vl v3, ss, vi 0, va b4, vl v1, ss, vl 1, ss, vl v14, ss, vi 1, va b7, vl v15, ss, uu, uu, uu, uu, uu, uu, uu] [(.long 1), (.long v15)])) rfl (hb hby at_167) _ ?_
        refine XS.lmul X10.here hx rfl (hb hby at_170) rfl ?_
        show Steps p.tables e below (T10.setTop (mkF m 171 #[vi p0, vl p1, ss, vl p2, ss, vl p3, ss, vi p4, vi v0, vl v1, ss, vl v2, ss, vl v3, ss, vi 0, va b4, vl v1, ss, vl 1, ss, vl v14, ss, vi 1, va b7, vl v15, ss, uu, uu, uu, uu, uu, uu, uu] [(.long ((1 : Int64) * (8 : Int64))), (.long v15)])) _
        rw [show (((1 : Int64) * (8 : Int64)) : Int64) = (8 : Int64) from by decide]
        refine XS.lcmp X10.here hx rfl (hb hby at_171) rfl ?_
        refine XS.ifNo X10.here hx rfl (hb hby at_172) rfl (own_lc_eqT hc11).2 ?_
        refine XS.iconst X10.here hx rfl (hb hby at_175) ?_
        refine XS.goto X10.here hx rfl (pc0 := 176) (pc' := 180) rfl (hb hby at_176) (by decide) (by decide) ?_
        refine XS.istore X10.here hx rfl (hb hby at_180) rfl (l' := #[vi p0, vl p1, ss, vl p2, ss, vl p3, ss, vi p4, vi v0, vl v1, ss, vl v2, ss, vl v3, ss, vi 0, va b4, vl v1, ss, vl 1, ss, vl v14, ss, vi 1, va b7, vl v15, ss, vi 1, uu, uu, uu, uu, uu, uu]) rfl ?_
        refine XS.aload X10.here hx rfl (hb hby at_182) rfl rfl ?_
        refine XS.lload X10.here hx rfl (hb hby at_184) rfl ?_
        show Steps p.tables e below (T10.setTop (mkF m 186 #[vi p0, vl p1, ss, vl p2, ss, vl p3, ss, vi p4, vi v0, vl v1, ss, vl v2, ss, vl v3, ss, vi 0, va b4, vl v1, ss, vl 1, ss, vl v14, ss, vi 1, va b7, vl v15, ss, vi 1, uu, uu, uu, uu, uu, uu] [(.long v2), (.ref b7)])) _
        refine XS.aload X10.here hx rfl (hb hby at_186) rfl rfl ?_
        refine st13.trans ?_
        refine XS.aload X13.here hx rfl (hb hby at_191) rfl rfl ?_
        refine st14.trans ?_
        show Steps p.tables e below (T14.setTop (mkF m 196 #[vi p0, vl p1, ss, vl p2, ss, vl p3, ss, vi p4, vi v0, vl v1, ss, vl v2, ss, vl v3, ss, vi 0, va b4, vl v1, ss, vl 1, ss, vl v14, ss, vi 1, va b7, vl v15, ss, vi 1, uu, uu, uu, uu, uu, uu] [(.long (((np_8.toInt64) * (8 : Int64)) + ((1 : Int64) * ((((ps_8.toInt64) * (v0.toInt64)) + ((ps_8 / (8 : Int32)).toInt64)) + (64 : Int64)))))])) _
        rw [← hv16]
        refine XS.lstore X14.here hx rfl (hb hby at_196) rfl (l' := #[vi p0, vl p1, ss, vl p2, ss, vl p3, ss, vi p4, vi v0, vl v1, ss, vl v2, ss, vl v3, ss, vi 0, va b4, vl v1, ss, vl 1, ss, vl v14, ss, vi 1, va b7, vl v15, ss, vi 1, vl v16, ss, uu, uu, uu, uu]) rfl ?_
        refine XS.iload X14.here hx rfl (hb hby at_198) rfl ?_
        refine XS.ifNo X14.here hx rfl (hb hby at_200) rfl ((if0 _ _).trans (feq (by decide : ¬ ((1 : Int32) = (0 : Int32)))).1) ?_
        refine XS.lload X14.here hx rfl (hb hby at_203) rfl ?_
        refine XS.lload X14.here hx rfl (hb hby at_205) rfl ?_
        refine XS.lload X14.here hx rfl (hb hby at_207) rfl ?_
        refine XS.ladd X14.here hx rfl (hb hby at_209) rfl ?_
        refine XS.lcmp X14.here hx rfl (hb hby at_210) rfl ?_
        show Steps p.tables e below (T14.setTop (mkF m 211 #[vi p0, vl p1, ss, vl p2, ss, vl p3, ss, vi p4, vi v0, vl v1, ss, vl v2, ss, vl v3, ss, vi 0, va b4, vl v1, ss, vl 1, ss, vl v14, ss, vi 1, va b7, vl v15, ss, vi 1, vl v16, ss, uu, uu, uu, uu] [(.int (lcmpW v16 (v15 + v14)))])) _
        refine XS.ifNo X14.here hx rfl (hb hby at_211) rfl (own_lc_eqT hc15).2 ?_
        refine XS.iconst X14.here hx rfl (hb hby at_214) ?_
        refine XS.goto X14.here hx rfl (pc0 := 215) (pc' := 219) rfl (hb hby at_215) (by decide) (by decide) ?_
        refine XS.istore X14.here hx rfl (hb hby at_219) rfl (l' := #[vi p0, vl p1, ss, vl p2, ss, vl p3, ss, vi p4, vi v0, vl v1, ss, vl v2, ss, vl v3, ss, vi 0, va b4, vl v1, ss, vl 1, ss, vl v14, ss, vi 1, va b7, vl v15, ss, vi 1, vl v16, ss, uu, uu, uu, uu]) rfl ?_
        refine XS.iload X14.here hx rfl (hb hby at_221) rfl ?_
        refine XS.ifYes X14.here hx rfl (pc0 := 223) (pc' := 257) rfl (hb hby at_223) rfl ((if0 _ _).trans (teq (by decide : (0 : Int32) = (0 : Int32))).1) (by decide) (by decide) ?_
        refine XS.aload X14.here hx rfl (hb hby at_257) rfl rfl ?_
        refine XS.lload X14.here hx rfl (hb hby at_259) rfl ?_
        show Steps p.tables e below (T14.setTop (mkF m 261 #[vi p0, vl p1, ss, vl p2, ss, vl p3, ss, vi p4, vi v0, vl v1, ss, vl v2, ss, vl v3, ss, vi 0, va b4, vl v1, ss, vl 1, ss, vl v14, ss, vi 1, va b7, vl v15, ss, vi 1, vl v16, ss, uu, uu, uu, uu] [(.long v3), (.ref b7)])) _
        refine XS.aload X14.here hx rfl (hb hby at_261) rfl rfl ?_
        refine st17.trans ?_
        refine XS.aload X17.here hx rfl (hb hby at_266) rfl rfl ?_
        refine st19.trans ?_
        show Steps p.tables e below (T19.setTop (mkF m 271 #[vi p0, vl p1, ss, vl p2, ss, vl p3, ss, vi p4, vi v0, vl v1, ss, vl v2, ss, vl v3, ss, vi 0, va b4, vl v1, ss, vl 1, ss, vl v14, ss, vi 1, va b7, vl v15, ss, vi 1, vl v16, ss, uu, uu, uu, uu] [(.long (((np_8.toInt64) * (8 : Int64)) + ((1 : Int64) * ((((ps_8.toInt64) * (v0.toInt64)) + ((ps_8 / (8 : Int32)).toInt64)) + (64 : Int64)))))])) _
        rw [← hv17]
        refine XS.lstore X19.here hx rfl (hb hby at_271) rfl (l' := #[vi p0, vl p1, ss, vl p2, ss, vl p3, ss, vi p4, vi v0, vl v1, ss, vl v2, ss, vl v3, ss, vi 0, va b4, vl v1, ss, vl 1, ss, vl v14, ss, vi 1, va b7, vl v15, ss, vi 1, vl v16, ss, vl v17, ss, uu, uu]) rfl ?_
        refine XS.iload X19.here hx rfl (hb hby at_273) rfl ?_
        refine XS.ifNo X19.here hx rfl (hb hby at_275) rfl ((if0 _ _).trans (feq (by decide : ¬ ((1 : Int32) = (0 : Int32)))).1) ?_
        refine XS.lload X19.here hx rfl (hb hby at_278) rfl ?_
        refine XS.lload X19.here hx rfl (hb hby at_280) rfl ?_
        refine XS.ladd X19.here hx rfl (hb hby at_282) rfl ?_
        refine XS.goto X19.here hx rfl (pc0 := 283) (pc' := 295) rfl (hb hby at_283) (by decide) (by decide) ?_
        show Steps p.tables e below (T19.setTop (mkF m 295 #[vi p0, vl p1, ss, vl p2, ss, vl p3, ss, vi p4, vi v0, vl v1, ss, vl v2, ss, vl v3, ss, vi 0, va b4, vl v1, ss, vl 1, ss, vl v14, ss, vi 1, va b7, vl v15, ss, vi 1, vl v16, ss, vl v17, ss, uu, uu] [(.long (v15 + v14))])) _
        rw [← hv18]
        refine XS.lstore X19.here hx rfl (hb hby at_295) rfl (l' := #[vi p0, vl p1, ss, vl p2, ss, vl p3, ss, vi p4, vi v0, vl v1, ss, vl v2, ss, vl v3, ss, vi 0, va b4, vl v1, ss, vl 1, ss, vl v14, ss, vi 1, va b7, vl v15, ss, vi 1, vl v16, ss, vl v17, ss, vl v18, ss]) rfl ?_
        refine XS.iload X19.here hx rfl (hb hby at_297) rfl ?_
        refine XS.ifNo X19.here hx rfl (hb hby at_299) rfl ((if0 _ _).trans (feq (by decide : ¬ ((1 : Int32) = (0 : Int32)))).1) ?_
        refine XS.lload X19.here hx rfl (hb hby at_302) rfl ?_
        refine XS.lload X19.here hx rfl (hb hby at_304) rfl ?_
        refine XS.lcmp X19.here hx rfl (hb hby at_306) rfl ?_
        refine XS.ifNo X19.here hx rfl (hb hby at_307) rfl (own_lc_eqT hc20).2 ?_
        refine XS.iconst X19.here hx rfl (hb hby at_310) ?_
        show Steps p.tables e below (T19.setTop (mkF m 311 #[vi p0, vl p1, ss, vl p2, ss, vl p3, ss, vi p4, vi v0, vl v1, ss, vl v2, ss, vl v3, ss, vi 0, va b4, vl v1, ss, vl 1, ss, vl v14, ss, vi 1, va b7, vl v15, ss, vi 1, vl v16, ss, vl v17, ss, vl v18, ss] [(.int 1)])) _
        refine XS.goto X19.here hx rfl (pc0 := 311) (pc' := 315) rfl (hb hby at_311) (by decide) (by decide) ?_
        exact retN X19 hx (t := .boolean) hrt (by simp) (hb hby at_315) hr
      · show Q0 n0 (some (.int 1)) T19.heap _
        exact (⟨rfl, N19⟩)
  · obtain ⟨T4, h4, k4, X4, e4, E4, A4, st4⟩ := newP X0 hx hZ (ww hw 2 rfl) e0 (g := (mkF m 52 #[vi p0, vl p1, ss, vl p2, ss, vl p3, ss, vi p4, vi v0, vl v1, ss, vl v2, ss, vl v3, ss, vi 1, uu, uu, uu, uu, uu, uu, uu, uu, uu, uu, uu, uu, uu, uu, uu, uu, uu, uu] [(.int 64)])) rfl (hb hby at_52) rfl (by decide) (cap := 64) (by decide) (by decide) (by decide) (by decide)
    obtain ⟨b4, qs4⟩ : ∃ z, z = h0.size := ⟨_, rfl⟩
    rw [← qs4] at A4 st4
    have g_b4 : n0 ≤ b4 := Nat.le_trans (own_old O0) (Nat.le_of_eq qs4.symm)
    have sz_b4 : h0.size ≤ b4 := Nat.le_trans K0.1 (Nat.le_of_eq qs4.symm)
    have O4 := O0.ext E4
    have K4 : Keep h0 h4 [] := K0.ext E4
    have V_b4 : BA Z h4 b4 (64 : Int32) := BA.new A4 (by decide)
    have pre_6 : ∀ t, Steps p.tables e below (T4.setTop (mkF m 62 #[vi p0, vl p1, ss, vl p2, ss, vl p3, ss, vi p4, vi v0, vl v1, ss, vl v2, ss, vl v3, ss, vi 1, va b4, uu, uu, uu, uu, uu, uu, uu, uu, uu, uu, uu, uu, uu, uu, uu, uu, uu] [(.int (lcmpW v1 (256 : Int64)))])) t → Steps p.tables e below (s₁.setTop (mkF m 0 #[vi p0, vl p1, ss, vl p2, ss, vl p3, ss, vi p4, uu, uu, uu, uu, uu, uu, uu, uu, uu, uu, uu, uu, uu, uu, uu, uu, uu, uu, uu, uu, uu, uu, uu, uu, uu, uu] [])) t := fun t k => pre_3 t (by
      show Steps p.tables e below (s₁.setTop (mkF m 40 #[vi p0, vl p1, ss, vl p2, ss, vl p3, ss, vi p4, vi v0, vl v1, ss, vl v2, ss, vl v3, ss, uu, uu, uu, uu, uu, uu, uu, uu, uu, uu, uu, uu, uu, uu, uu, uu, uu, uu, uu] [(.int (p4 &&& (1 : Int32)))])) _
      refine XS.ifNo X0.here hx rfl (hb hby at_40) rfl ((if0 _ _).trans (feq hc2).1) ?_
      refine XS.iconst X0.here hx rfl (hb hby at_43) ?_
      refine XS.goto X0.here hx rfl (pc0 := 44) (pc' := 48) rfl (hb hby at_44) (by decide) (by decide) ?_
      refine XS.istore X0.here hx rfl (hb hby at_48) rfl (l' := #[vi p0, vl p1, ss, vl p2, ss, vl p3, ss, vi p4, vi v0, vl v1, ss, vl v2, ss, vl v3, ss, vi 1, uu, uu, uu, uu, uu, uu, uu, uu, uu, uu, uu, uu, uu, uu, uu, uu, uu, uu]) rfl ?_
      refine XS.bipush X0.here hx rfl (hb hby at_50) ?_
      refine st4 _ ?_
      refine XS.astore X4.here hx rfl (hb hby at_54) rfl rfl (l' := #[vi p0, vl p1, ss, vl p2, ss, vl p3, ss, vi p4, vi v0, vl v1, ss, vl v2, ss, vl v3, ss, vi 1, va b4, uu, uu, uu, uu, uu, uu, uu, uu, uu, uu, uu, uu, uu, uu, uu, uu, uu]) rfl ?_
      refine XS.lload X4.here hx rfl (hb hby at_56) rfl ?_
      show Steps p.tables e below (T4.setTop (mkF m 58 #[vi p0, vl p1, ss, vl p2, ss, vl p3, ss, vi p4, vi v0, vl v1, ss, vl v2, ss, vl v3, ss, vi 1, va b4, uu, uu, uu, uu, uu, uu, uu, uu, uu, uu, uu, uu, uu, uu, uu, uu, uu] [(.long v1)])) _
      refine X4.ldc2Long hx hown (mvT hZ (ww hw 3 rfl)) (g := (mkF m 58 #[vi p0, vl p1, ss, vl p2, ss, vl p3, ss, vi p4, vi v0, vl v1, ss, vl v2, ss, vl v3, ss, vi 1, va b4, uu, uu, uu, uu, uu, uu, uu, uu, uu, uu, uu, uu, uu, uu, uu, uu, uu] [(.long v1)])) rfl (hb hby at_58) _ ?_
      refine XS.lcmp X4.here hx rfl (hb hby at_61) rfl ?_
      exact k)
    by_cases hc5 : (256 : Int64) < v1
    · obtain ⟨v19, hv19⟩ : ∃ z : Int64, z = (((v1 - (1 : Int64)) / (256 : Int64)) + (1 : Int64)) := ⟨_, rfl⟩
      obtain ⟨v20, hv20⟩ : ∃ z : Int64, z = ((((256 : Int64) * (v0.toInt64)) + (32 : Int64)) + (64 : Int64)) := ⟨_, rfl⟩
      have pre_8 : ∀ t, Steps p.tables e below (T4.setTop (mkF m 133 #[vi p0, vl p1, ss, vl p2, ss, vl p3, ss, vi p4, vi v0, vl v1, ss, vl v2, ss, vl v3, ss, vi 1, va b4, vl 256, ss, vl v19, ss, vl v20, ss, uu, uu, uu, uu, uu, uu, uu, uu, uu, uu, uu] [(.int (lcmpW (v2 / (256 : Int64)) (v3 / (256 : Int64))))])) t → Steps p.tables e below (s₁.setTop (mkF m 0 #[vi p0, vl p1, ss, vl p2, ss, vl p3, ss, vi p4, uu, uu, uu, uu, uu, uu, uu, uu, uu, uu, uu, uu, uu, uu, uu, uu, uu, uu, uu, uu, uu, uu, uu, uu, uu, uu] [])) t := fun t k => pre_6 t (by
        show Steps p.tables e below (T4.setTop (mkF m 62 #[vi p0, vl p1, ss, vl p2, ss, vl p3, ss, vi p4, vi v0, vl v1, ss, vl v2, ss, vl v3, ss, vi 1, va b4, uu, uu, uu, uu, uu, uu, uu, uu, uu, uu, uu, uu, uu, uu, uu, uu, uu] [(.int (lcmpW v1 (256 : Int64)))])) _
        refine XS.ifYes X4.here hx rfl (pc0 := 62) (pc' := 75) rfl (hb hby at_62) rfl (own_lc_gtT hc5).1 (by decide) (by decide) ?_
        refine X4.ldc2Long hx hown (mvT hZ (ww hw 3 rfl)) (g := (mkF m 75 #[vi p0, vl p1, ss, vl p2, ss, vl p3, ss, vi p4, vi v0, vl v1, ss, vl v2, ss, vl v3, ss, vi 1, va b4, uu, uu, uu, uu, uu, uu, uu, uu, uu, uu, uu, uu, uu, uu, uu, uu, uu] [])) rfl (hb hby at_75) _ ?_
        refine XS.lstore X4.here hx rfl (hb hby at_78) rfl (l' := #[vi p0, vl p1, ss, vl p2, ss, vl p3, ss, vi p4, vi v0, vl v1, ss, vl v2, ss, vl v3, ss, vi 1, va b4, vl 256, ss, uu, uu, uu, uu, uu, uu, uu, uu, uu, uu, uu, uu, uu, uu, uu]) rfl ?_
        refine XS.lload X4.here hx rfl (hb hby at_80) rfl ?_
        refine XS.lconst X4.here hx rfl (hb hby at_82) ?_
        refine XS.lsub X4.here hx rfl (hb hby at_83) rfl ?_
        refine X4.ldc2Long hx hown (mvT hZ (ww hw 3 rfl)) (g := (mkF m 84 #[vi p0, vl p1, ss, vl p2, ss, vl p3, ss, vi p4, vi v0, vl v1, ss, vl v2, ss, vl v3, ss, vi 1, va b4, vl 256, ss, uu, uu, uu, uu, uu, uu, uu, uu, uu, uu, uu, uu, uu, uu, uu] [(.long (v1 - (1 : Int64)))])) rfl (hb hby at_84) _ ?_
        refine XS.ldiv X4.here hx rfl (hb hby at_87) rfl (by decide) ?_
        show Steps p.tables e below (T4.setTop (mkF m 88 #[vi p0, vl p1, ss, vl p2, ss, vl p3, ss, vi p4, vi v0, vl v1, ss, vl v2, ss, vl v3, ss, vi 1, va b4, vl 256, ss, uu, uu, uu, uu, uu, uu, uu, uu, uu, uu, uu, uu, uu, uu, uu] [(.long ((v1 - (1 : Int64)) / (256 : Int64)))])) _
        refine XS.lconst X4.here hx rfl (hb hby at_88) ?_
        refine XS.ladd X4.here hx rfl (hb hby at_89) rfl ?_
        show Steps p.tables e below (T4.setTop (mkF m 90 #[vi p0, vl p1, ss, vl p2, ss, vl p3, ss, vi p4, vi v0, vl v1, ss, vl v2, ss, vl v3, ss, vi 1, va b4, vl 256, ss, uu, uu, uu, uu, uu, uu, uu, uu, uu, uu, uu, uu, uu, uu, uu] [(.long (((v1 - (1 : Int64)) / (256 : Int64)) + (1 : Int64)))])) _
        rw [← hv19]
        refine XS.lstore X4.here hx rfl (hb hby at_90) rfl (l' := #[vi p0, vl p1, ss, vl p2, ss, vl p3, ss, vi p4, vi v0, vl v1, ss, vl v2, ss, vl v3, ss, vi 1, va b4, vl 256, ss, vl v19, ss, uu, uu, uu, uu, uu, uu, uu, uu, uu, uu, uu, uu, uu]) rfl ?_
        refine XS.lload X4.here hx rfl (hb hby at_92) rfl ?_
        refine XS.iload X4.here hx rfl (hb hby at_94) rfl ?_
        refine XS.i2l X4.here hx rfl (hb hby at_96) rfl ?_
        refine XS.lmul X4.here hx rfl (hb hby at_97) rfl ?_
        refine XS.lload X4.here hx rfl (hb hby at_98) rfl ?_
        refine X4.ldc2Long hx hown (mvT hZ (ww hw 4 rfl)) (g := (mkF m 100 #[vi p0, vl p1, ss, vl p2, ss, vl p3, ss, vi p4, vi v0, vl v1, ss, vl v2, ss, vl v3, ss, vi 1, va b4, vl 256, ss, vl v19, ss, uu, uu, uu, uu, uu, uu, uu, uu, uu, uu, uu, uu, uu] [(.long 256), (.long ((256 : Int64) * (v0.toInt64)))])) rfl (hb hby at_100) _ ?_
        refine XS.ldiv X4.here hx rfl (hb hby at_103) rfl (by decide) ?_
        show Steps p.tables e below (T4.setTop (mkF m 104 #[vi p0, vl p1, ss, vl p2, ss, vl p3, ss, vi p4, vi v0, vl v1, ss, vl v2, ss, vl v3, ss, vi 1, va b4, vl 256, ss, vl v19, ss, uu, uu, uu, uu, uu, uu, uu, uu, uu, uu, uu, uu, uu] [(.long ((256 : Int64) / (8 : Int64))), (.long ((256 : Int64) * (v0.toInt64)))])) _
        rw [show (((256 : Int64) / (8 : Int64)) : Int64) = (32 : Int64) from by decide]
        refine XS.ladd X4.here hx rfl (hb hby at_104) rfl ?_
        refine X4.ldc2Long hx hown (mvT hZ (ww hw 5 rfl)) (g := (mkF m 105 #[vi p0, vl p1, ss, vl p2, ss, vl p3, ss, vi p4, vi v0, vl v1, ss, vl v2, ss, vl v3, ss, vi 1, va b4, vl 256, ss, vl v19, ss, uu, uu, uu, uu, uu, uu, uu, uu, uu, uu, uu, uu, uu] [(.long (((256 : Int64) * (v0.toInt64)) + (32 : Int64)))])) rfl (hb hby at_105) _ ?_
        refine XS.ladd X4.here hx rfl (hb hby at_108) rfl ?_
        show Steps p.tables e below (T4.setTop (mkF m 109 #[vi p0, vl p1, ss, vl p2, ss, vl p3, ss, vi p4, vi v0, vl v1, ss, vl v2, ss, vl v3, ss, vi 1, va b4, vl 256, ss, vl v19, ss, uu, uu, uu, uu, uu, uu, uu, uu, uu, uu, uu, uu, uu] [(.long ((((256 : Int64) * (v0.toInt64)) + (32 : Int64)) + (64 : Int64)))])) _
        rw [← hv20]
        refine XS.lstore X4.here hx rfl (hb hby at_109) rfl (l' := #[vi p0, vl p1, ss, vl p2, ss, vl p3, ss, vi p4, vi v0, vl v1, ss, vl v2, ss, vl v3, ss, vi 1, va b4, vl 256, ss, vl v19, ss, vl v20, ss, uu, uu, uu, uu, uu, uu, uu, uu, uu, uu, uu]) rfl ?_
        refine XS.lload X4.here hx rfl (hb hby at_111) rfl ?_
        refine X4.ldc2Long hx hown (mvT hZ (ww hw 3 rfl)) (g := (mkF m 113 #[vi p0, vl p1, ss, vl p2, ss, vl p3, ss, vi p4, vi v0, vl v1, ss, vl v2, ss, vl v3, ss, vi 1, va b4, vl 256, ss, vl v19, ss, vl v20, ss, uu, uu, uu, uu, uu, uu, uu, uu, uu, uu, uu] [(.long v1)])) rfl (hb hby at_113) _ ?_
        refine XS.lcmp X4.here hx rfl (hb hby at_116) rfl ?_
        refine XS.ifNo X4.here hx rfl (hb hby at_117) rfl (own_lc_gtT hc5).2 ?_
        refine XS.lload X4.here hx rfl (hb hby at_120) rfl ?_
        refine X4.ldc2Long hx hown (mvT hZ (ww hw 3 rfl)) (g := (mkF m 122 #[vi p0, vl p1, ss, vl p2, ss, vl p3, ss, vi p4, vi v0, vl v1, ss, vl v2, ss, vl v3, ss, vi 1, va b4, vl 256, ss, vl v19, ss, vl v20, ss, uu, uu, uu, uu, uu, uu, uu, uu, uu, uu, uu] [(.long v2)])) rfl (hb hby at_122) _ ?_
        refine XS.ldiv X4.here hx rfl (hb hby at_125) rfl (by decide) ?_
        show Steps p.tables e below (T4.setTop (mkF m 126 #[vi p0, vl p1, ss, vl p2, ss, vl p3, ss, vi p4, vi v0, vl v1, ss, vl v2, ss, vl v3, ss, vi 1, va b4, vl 256, ss, vl v19, ss, vl v20, ss, uu, uu, uu, uu, uu, uu, uu, uu, uu, uu, uu] [(.long (v2 / (256 : Int64)))])) _
        refine XS.lload X4.here hx rfl (hb hby at_126) rfl ?_
        refine X4.ldc2Long hx hown (mvT hZ (ww hw 3 rfl)) (g := (mkF m 128 #[vi p0, vl p1, ss, vl p2, ss, vl p3, ss, vi p4, vi v0, vl v1, ss, vl v2, ss, vl v3, ss, vi 1, va b4, vl 256, ss, vl v19, ss, vl v20, ss, uu, uu, uu, uu, uu, uu, uu, uu, uu, uu, uu] [(.long v3), (.long (v2 / (256 : Int64)))])) rfl (hb hby at_128) _ ?_
        refine XS.ldiv X4.here hx rfl (hb hby at_131) rfl (by decide) ?_
        refine XS.lcmp X4.here hx rfl (hb hby at_132) rfl ?_
        exact k)
      by_cases hc7 : (v2 / (256 : Int64)) = (v3 / (256 : Int64))
      · obtain ⟨T9, h9, X9, e9, E9, A9, D9, -, st9⟩ := newO X4 hx hZ hown (ww hw 6 rfl) (ww hw 7 rfl) (ww hw 8 rfl) e4 (g := (mkF m 143 #[vi p0, vl p1, ss, vl p2, ss, vl p3, ss, vi p4, vi v0, vl v1, ss, vl v2, ss, vl v3, ss, vi 1, va b4, vl 256, ss, vl v19, ss, vl v20, ss, vi 1, uu, uu, uu, uu, uu, uu, uu, uu, uu, uu] [])) rfl (hb hby at_143) (by decide) (by decide)
        obtain ⟨b9, qs9⟩ : ∃ z, z = h4.size := ⟨_, rfl⟩
        rw [← qs9] at A9 D9 st9
        have ne_b4_b9 : b4 ≠ b9 := Nat.ne_of_lt (Nat.lt_of_lt_of_le V_b4.lt (Nat.le_of_eq qs9.symm))
        have g_b9 : n0 ≤ b9 := Nat.le_trans (own_old O4) (Nat.le_of_eq qs9.symm)
        have sz_b9 : h0.size ≤ b9 := Nat.le_trans K4.1 (Nat.le_of_eq qs9.symm)
        have O9 := O4.ext E9
        have K9 : Keep h0 h9 [] := K4.ext E9
        have F_length_b9 : Fld Z h9 b9 sC0 "length" "I" (.int 0) := D9 (Or.inr (ww hw 16 rfl)) (ty := .int) (by decide)
        have F_pageSlots_b9 : Fld Z h9 b9 sC0 "pageSlots" "I" (.int 0) := D9 (Or.inr (ww hw 23 rfl)) (ty := .int) (by decide)
        have F_pages_b9 : Fld Z h9 b9 sC0 "pages" "[Lcom/example/tributary/tributary/model/NodeHashes$Page;" .null := D9 (Or.inr (ww hw 30 rfl)) (ty := (.array (.object sC2))) (by decide)
        have F_pagesMade_b9 : Fld Z h9 b9 sC0 "pagesMade" "I" (.int 0) := D9 (Or.inl (ww hw 38 rfl)) (ty := .int) (by decide)
        have F_held_b9 : Fld Z h9 b9 sC0 "held" "J" (.long 0) := D9 (Or.inl (ww hw 111 rfl)) (ty := .long) (by decide)
        have hS := own_LS hv1
        obtain ⟨_, _, ⟨T10, L10, k10, n10⟩, -, X10, ⟨Lc10, hQ10, l10, y10, z10⟩, st10⟩ := X9.specialBack hx (y := My1) rfl hown (mvT hZ (ww hw 9 rfl)) (mvT hZ (ww hw 10 rfl)) (mvT hZ (ww hw 11 rfl)) (by decide) (backOf (W := 1) (rm1_0 l Z a0 hw []  b9 v0 v1 h9 n0 O9 S A9 F_held_b9 F_length_b9 F_pageSlots_b9 F_pages_b9 F_pagesMade_b9 g_b9 hS) hZ (ww hw 11 rfl) (ww hw 8 rfl) (by decide) (by decide)) (g := (mkF m 151 #[vi p0, vl p1, ss, vl p2, ss, vl p3, ss, vi p4, vi v0, vl v1, ss, vl v2, ss, vl v3, ss, vi 1, va b4, vl 256, ss, vl v19, ss, vl v20, ss, vi 1, uu, uu, uu, uu, uu, uu, uu, uu, uu, uu] [(.long v1), (.int v0), (.ref b9), (.ref b9)])) rfl (by rw [hml]; rfl) (Steps.refl _) (a := b9) (argsL := [(.int v0), (.long v1)]) (rest := [(.ref b9)]) (lenOf pd_2 rfl) rfl (by show 2 * 0 + _ ≤ _; exact Nat.le_of_eq rfl) (hb hby at_151) (fun _ _ => ⟨rfl, e9, (by decide : 2 + 1 ≤ _), (by decide : 69 + 256 ≤ _)⟩)
        dsimp only [Pt.U, Pt.locs, Pt.cells, Pt.slots] at X10 l10 y10 z10 st10 hQ10
        subst l10 y10 z10
        have fc11 := (V_b4.ext E9)
        obtain ⟨b13_10, ps_10, np_10, rfl, Nq10, Kc10, P0_10, P1_10, P2_10, P3_10, P4_10, P5_10, P6_10, P7_10, np0_10⟩ := hQ10
        have N10 := Fr.app N0 Nq10
        have ne_b4_b13_10 : b4 ≠ b13_10 := Nat.ne_of_lt (Nat.lt_of_lt_of_le fc11.lt P7_10)
        have ne_b9_b13_10 : b9 ≠ b13_10 := Nat.ne_of_lt (Nat.lt_of_lt_of_le A9.lt P7_10)
        have g_b13_10 : n0 ≤ b13_10 := Nat.le_trans (own_old O9) P7_10
        have sz_b13_10 : h0.size ≤ b13_10 := Nat.le_trans K9.1 P7_10
        have O10 := O9.keep Kc10 (allS g_b9 all0)
        have K10 : Keep h0 T10.heap [] := K9.trans Kc10 (allS (Or.inr sz_b9) all0)
        have hIN := np0_10
        have hNP := own_LP (own_Ll hv0) hS hIN
        have hSa := own_LSL hS hIN (own_La hS hv2)
        have hSb := own_LSL hS hIN (own_La hS hv3)
        have hFT := own_LFT hS hIN
        obtain ⟨cq12, kq12, q12a, q12b, q12c⟩ := isOf hZ rfl P0_10
        obtain ⟨_, _, ⟨T12, L12, k12, n12⟩, -, X12, ⟨Lc12, hQ12, l12, y12, z12⟩, st12⟩ := X10.virtualBack hx (y := My5) (z := My5) hown (mvT hZ (ww hw 31 rfl)) (mvT hZ (ww hw 32 rfl)) (notFace_of_selects (args := #[]) (mvT hZ (ww hw 34 rfl))) (mvT hZ (ww hw 34 rfl)) (mvT hZ (ww hw 33 rfl)) (by decide) (backOf (W := 0) (rm5_0 l Z a0 hw []  b9 b13_10 (0 : Int64) v0 ps_10 np_10 T10.heap n0 O10 S P2_10 P3_10 P4_10 P5_10 P6_10) hZ (ww hw 35 rfl) (ww hw 8 rfl) (by decide) (by decide)) q12a q12c (g := (mkF m 158 #[vi p0, vl p1, ss, vl p2, ss, vl p3, ss, vi p4, vi v0, vl v1, ss, vl v2, ss, vl v3, ss, vi 1, va b4, vl 256, ss, vl v19, ss, vl v20, ss, vi 1, va b9, uu, uu, uu, uu, uu, uu, uu, uu, uu] [(.ref b9)])) rfl (by rw [hml]; rfl) (Steps.refl _) (argsL := []) (rest := []) (lenOf pd_3 rfl) rfl (by show 2 * 0 + _ ≤ _; exact Nat.le_of_eq rfl) (hb hby at_158) (fun _ _ => ⟨rfl, rfl, (by decide : 3 + 0 ≤ _), (by decide : 325 + 0 ≤ _)⟩)
        dsimp only [Pt.U, Pt.locs, Pt.cells, Pt.slots] at X12 l12 y12 z12 st12 hQ12
        subst l12 y12 z12
        obtain ⟨rfl, Nq12, e12⟩ := hQ12
        have N12 := Fr.app N10 Nq12
        obtain ⟨v21, hv21⟩ : ∃ z : Int64, z = (((np_10.toInt64) * (8 : Int64)) + ((0 : Int64) * ((((ps_10.toInt64) * (v0.toInt64)) + ((ps_10 / (8 : Int32)).toInt64)) + (64 : Int64)))) := ⟨_, rfl⟩
        have hc13 : v21 = (v19 * (8 : Int64)) := (own_Lb0 hS hIN hv21 (Or.inr ⟨hc5, hv19⟩))
        have fc14 := (fc11.keep Kc10 (ninS ne_b4_b9 nin0))
        obtain ⟨cq15, kq15, q15a, q15b, q15c⟩ := isOf hZ e12 P0_10
        obtain ⟨_, _, ⟨T15, L15, k15, n15⟩, -, X15, ⟨Lc15, hQ15, l15, y15, z15⟩, st15⟩ := X12.virtualBack hx (y := My6) (z := My6) hown (mvT hZ (ww hw 40 rfl)) (mvT hZ (ww hw 41 rfl)) (notFace_of_selects (args := #[]) (mvT hZ (ww hw 43 rfl))) (mvT hZ (ww hw 43 rfl)) (mvT hZ (ww hw 42 rfl)) (by decide) (backOf (W := 0) (rm6_0 l Z a0 hw []  b9 b13_10 b4 (0 : Int64) v0 ps_10 np_10 v2 T10.heap n0 O10 S P0_10 P1_10 P2_10 P3_10 P4_10 P5_10 P6_10 fc14 ne_b9_b13_10 (Ne.symm ne_b4_b9) (Ne.symm ne_b4_b13_10) g_b9 g_b13_10 hNP hSa) hZ (ww hw 44 rfl) (ww hw 8 rfl) (by decide) (by decide)) q15a q15c (g := (mkF m 188 #[vi p0, vl p1, ss, vl p2, ss, vl p3, ss, vi p4, vi v0, vl v1, ss, vl v2, ss, vl v3, ss, vi 1, va b4, vl 256, ss, vl v19, ss, vl v20, ss, vi 1, va b9, vl v21, ss, vi 1, uu, uu, uu, uu, uu, uu] [(.ref b4), (.long v2), (.ref b9)])) rfl (by rw [hml]; rfl) (Steps.refl _) (argsL := [(.long v2), (.ref b4)]) (rest := []) (lenOf pd_9 rfl) rfl (by show 2 * 0 + _ ≤ _; exact Nat.le_of_eq rfl) (hb hby at_188) (fun _ _ => ⟨rfl, e12, (by decide : 3 + 4 ≤ _), (by decide : 325 + 16137 ≤ _)⟩)
        dsimp only [Pt.U, Pt.locs, Pt.cells, Pt.slots] at X15 l15 y15 z15 st15 hQ15
        subst l15 y15 z15
        obtain ⟨b4_15, b3_9_15, b9_9_15, b3_10_10_9_15, hv_15, u_15, rfl, Nq15, Kc15, P0_15, P1_15, P2_15, P3_15, P4_15, P5_15, P6_15, P7_15, P8_15, P9_15, P10_15, P11_15, P12_15, P13_15, P14_15, P15_15, P16_15, P17_15, P18_15, P19_15, P20_15, P21_15, P22_15, P23_15, P24_15, np0_15⟩ := hQ15
        have N15 := Fr.app N12 Nq15
        have ne_b4_b4_15 : b4 ≠ b4_15 := Nat.ne_of_lt (Nat.lt_of_lt_of_le fc14.lt P15_15)
        have ne_b9_b4_15 : b9 ≠ b4_15 := Nat.ne_of_lt (Nat.lt_of_lt_of_le P0_10.lt P15_15)
        have ne_b13_10_b4_15 : b13_10 ≠ b4_15 := Nat.ne_of_lt (Nat.lt_of_lt_of_le P6_10.lt P15_15)
        have ne_b4_b3_9_15 : b4 ≠ b3_9_15 := Nat.ne_of_lt (Nat.lt_of_lt_of_le fc14.lt P16_15)
        have ne_b9_b3_9_15 : b9 ≠ b3_9_15 := Nat.ne_of_lt (Nat.lt_of_lt_of_le P0_10.lt P16_15)
        have ne_b13_10_b3_9_15 : b13_10 ≠ b3_9_15 := Nat.ne_of_lt (Nat.lt_of_lt_of_le P6_10.lt P16_15)
        have ne_b4_b9_9_15 : b4 ≠ b9_9_15 := Nat.ne_of_lt (Nat.lt_of_lt_of_le fc14.lt P17_15)
        have ne_b9_b9_9_15 : b9 ≠ b9_9_15 := Nat.ne_of_lt (Nat.lt_of_lt_of_le P0_10.lt P17_15)
        have ne_b13_10_b9_9_15 : b13_10 ≠ b9_9_15 := Nat.ne_of_lt (Nat.lt_of_lt_of_le P6_10.lt P17_15)
        have ne_b4_b3_10_10_9_15 : b4 ≠ b3_10_10_9_15 := Nat.ne_of_lt (Nat.lt_of_lt_of_le fc14.lt P18_15)
        have ne_b9_b3_10_10_9_15 : b9 ≠ b3_10_10_9_15 := Nat.ne_of_lt (Nat.lt_of_lt_of_le P0_10.lt P18_15)
        have ne_b13_10_b3_10_10_9_15 : b13_10 ≠ b3_10_10_9_15 := Nat.ne_of_lt (Nat.lt_of_lt_of_le P6_10.lt P18_15)
        have g_b4_15 : n0 ≤ b4_15 := Nat.le_trans (own_old O10) P15_15
        have sz_b4_15 : h0.size ≤ b4_15 := Nat.le_trans K10.1 P15_15
        have g_b3_9_15 : n0 ≤ b3_9_15 := Nat.le_trans (own_old O10) P16_15
        have sz_b3_9_15 : h0.size ≤ b3_9_15 := Nat.le_trans K10.1 P16_15
        have g_b9_9_15 : n0 ≤ b9_9_15 := Nat.le_trans (own_old O10) P17_15
        have sz_b9_9_15 : h0.size ≤ b9_9_15 := Nat.le_trans K10.1 P17_15
        have g_b3_10_10_9_15 : n0 ≤ b3_10_10_9_15 := Nat.le_trans (own_old O10) P18_15
        have sz_b3_10_10_9_15 : h0.size ≤ b3_10_10_9_15 := Nat.le_trans K10.1 P18_15
        have O15 := O10.keep Kc15 (allS g_b9 (allS g_b13_10 all0))
        have K15 : Keep h0 T15.heap [] := K10.trans Kc15 (allS (Or.inr sz_b9) (allS (Or.inr sz_b13_10) all0))
        obtain ⟨cq16, kq16, q16a, q16b, q16c⟩ := isOf hZ rfl P0_15
        obtain ⟨_, _, ⟨T16, L16, k16, n16⟩, -, X16, ⟨Lc16, hQ16, l16, y16, z16⟩, st16⟩ := X15.virtualBack hx (y := My5) (z := My5) hown (mvT hZ (ww hw 31 rfl)) (mvT hZ (ww hw 32 rfl)) (notFace_of_selects (args := #[]) (mvT hZ (ww hw 34 rfl))) (mvT hZ (ww hw 34 rfl)) (mvT hZ (ww hw 33 rfl)) (by decide) (backOf (W := 0) (rm5_1 l Z a0 hw []  b9 b13_10 b4_15 b3_9_15 b9_9_15 b3_10_10_9_15 hv_15 v0 ps_10 np_10 ((v2 / (ps_10.toInt64)).toInt32) (ps_10 * v0) u_15 (((ps_10 - (1 : Int32)) >>> ((6 : Int32) &&& 31)) + (1 : Int32)) T15.heap n0 O15 S P2_15 P3_15 P4_15 P5_15 P6_15) hZ (ww hw 35 rfl) (ww hw 8 rfl) (by decide) (by decide)) q16a q16c (g := (mkF m 193 #[vi p0, vl p1, ss, vl p2, ss, vl p3, ss, vi p4, vi v0, vl v1, ss, vl v2, ss, vl v3, ss, vi 1, va b4, vl 256, ss, vl v19, ss, vl v20, ss, vi 1, va b9, vl v21, ss, vi 1, uu, uu, uu, uu, uu, uu] [(.ref b9)])) rfl (by rw [hml]; rfl) (Steps.refl _) (argsL := []) (rest := []) (lenOf pd_3 rfl) rfl (by show 2 * 0 + _ ≤ _; exact Nat.le_of_eq rfl) (hb hby at_193) (fun _ _ => ⟨rfl, rfl, (by decide : 7 + 0 ≤ _), (by decide : 16462 + 0 ≤ _)⟩)
        dsimp only [Pt.U, Pt.locs, Pt.cells, Pt.slots] at X16 l16 y16 z16 st16 hQ16
        subst l16 y16 z16
        obtain ⟨rfl, Nq16, e16⟩ := hQ16
        have N16 := Fr.app N15 Nq16
        obtain ⟨v22, hv22⟩ : ∃ z : Int64, z = (((np_10.toInt64) * (8 : Int64)) + ((1 : Int64) * ((((ps_10.toInt64) * (v0.toInt64)) + ((ps_10 / (8 : Int32)).toInt64)) + (64 : Int64)))) := ⟨_, rfl⟩
        have hc17 : v22 = (v21 + v20) := (own_Lb1 hS hIN hNP hv21 hv22 hv20 (Or.inr ⟨hc5, rfl, rfl⟩))
        obtain ⟨cq18, kq18, q18a, q18b, q18c⟩ := isOf hZ e16 P0_15
        obtain ⟨_, _, ⟨T18, L18, k18, n18⟩, -, X18, ⟨Lc18, hQ18, l18, y18, z18⟩, st18⟩ := X16.virtualBack hx (y := My16) (z := My16) hown (mvT hZ (ww hw 112 rfl)) (mvT hZ (ww hw 113 rfl)) (notFace_of_selects (args := #[]) (mvT hZ (ww hw 115 rfl))) (mvT hZ (ww hw 115 rfl)) (mvT hZ (ww hw 114 rfl)) (by decide) (backOf (W := 0) (rm16_0 l Z a0 hw []  b9 b13_10 b4_15 b3_9_15 b9_9_15 b3_10_10_9_15 hv_15 v0 ps_10 np_10 ((v2 / (ps_10.toInt64)).toInt32) (ps_10 * v0) u_15 (((ps_10 - (1 : Int32)) >>> ((6 : Int32) &&& 31)) + (1 : Int32)) v1 T15.heap n0 O15 S P0_15 P1_15 P2_15 P3_15 P4_15 P5_15 P6_15 P7_15 P8_15 P9_15 P10_15 P11_15 P12_15 P13_15 P14_15 ne_b9_b13_10 ne_b9_b4_15 ne_b9_b3_9_15 ne_b9_b9_9_15 ne_b9_b3_10_10_9_15 ne_b13_10_b9_9_15 ne_b13_10_b3_10_10_9_15 P20_15 P21_15 P22_15 P23_15 P24_15 g_b9 g_b9_9_15 g_b3_10_10_9_15 hNP hFT (own_pN hNP) np0_15) hZ (ww hw 116 rfl) (ww hw 8 rfl) (by decide) (by decide)) q18a q18c (g := (mkF m 231 #[vi p0, vl p1, ss, vl p2, ss, vl p3, ss, vi p4, vi v0, vl v1, ss, vl v2, ss, vl v3, ss, vi 1, va b4, vl 256, ss, vl v19, ss, vl v20, ss, vi 1, va b9, vl v21, ss, vi 1, vl v22, ss, uu, uu, uu, uu] [(.long v1), (.long 0), (.ref b9)])) rfl (by rw [hml]; rfl) (Steps.refl _) (argsL := [(.long 0), (.long v1)]) (rest := []) (lenOf pd_11 rfl) rfl (by show 2 * 0 + _ ≤ _; exact Nat.le_of_eq rfl) (hb hby at_231) (fun _ _ => ⟨rfl, e16, (by decide : 7 + 0 ≤ _), (by decide : 16462 + 0 ≤ _)⟩)
        dsimp only [Pt.U, Pt.locs, Pt.cells, Pt.slots] at X18 l18 y18 z18 st18 hQ18
        subst l18 y18 z18
        have fc19 := (fc14.keep Kc15 (ninS ne_b4_b9 (ninS ne_b4_b13_10 nin0)))
        obtain ⟨hv_18, u_18, rfl, Nq18, Kc18, P0_18, P1_18, P2_18, P3_18, P4_18, P5_18, P6_18, P7_18, P8_18, P9_18, np0_18⟩ := hQ18
        have N18 := Fr.app N16 Nq18
        have O18 := O15.keep Kc18 (allS g_b9 (allS g_b9_9_15 (allS g_b3_10_10_9_15 all0)))
        have K18 : Keep h0 T18.heap [] := K15.trans Kc18 (allS (Or.inr sz_b9) (allS (Or.inr sz_b9_9_15) (allS (Or.inr sz_b3_10_10_9_15) all0)))
        have fc20 := (P6_15.keep Kc18 (ninS (Ne.symm ne_b9_b13_10) (ninS ne_b13_10_b9_9_15 (ninS ne_b13_10_b3_10_10_9_15 nin0))))
        obtain ⟨cq21, kq21, q21a, q21b, q21c⟩ := isOf hZ rfl P0_18
        obtain ⟨_, _, ⟨T21, L21, k21, n21⟩, -, X21, ⟨Lc21, hQ21, l21, y21, z21⟩, st21⟩ := X18.virtualBack hx (y := My5) (z := My5) hown (mvT hZ (ww hw 31 rfl)) (mvT hZ (ww hw 32 rfl)) (notFace_of_selects (args := #[]) (mvT hZ (ww hw 34 rfl))) (mvT hZ (ww hw 34 rfl)) (mvT hZ (ww hw 33 rfl)) (by decide) (backOf (W := 0) (rm5_1 l Z a0 hw []  b9 b13_10 b4_15 b3_9_15 b9_9_15 b3_10_10_9_15 hv_18 v0 ps_10 np_10 ((v2 / (ps_10.toInt64)).toInt32) (ps_10 * v0) u_18 (((ps_10 - (1 : Int32)) >>> ((6 : Int32) &&& 31)) + (1 : Int32)) T18.heap n0 O18 S P2_18 P3_18 P4_18 P5_18 fc20) hZ (ww hw 35 rfl) (ww hw 8 rfl) (by decide) (by decide)) q21a q21c (g := (mkF m 241 #[vi p0, vl p1, ss, vl p2, ss, vl p3, ss, vi p4, vi v0, vl v1, ss, vl v2, ss, vl v3, ss, vi 1, va b4, vl 256, ss, vl v19, ss, vl v20, ss, vi 1, va b9, vl v21, ss, vi 1, vl v22, ss, uu, uu, uu, uu] [(.ref b9)])) rfl (by rw [hml]; rfl) (Steps.refl _) (argsL := []) (rest := []) (lenOf pd_3 rfl) rfl (by show 2 * 0 + _ ≤ _; exact Nat.le_of_eq rfl) (hb hby at_241) (fun _ _ => ⟨rfl, rfl, (by decide : 7 + 0 ≤ _), (by decide : 16462 + 0 ≤ _)⟩)
        dsimp only [Pt.U, Pt.locs, Pt.cells, Pt.slots] at X21 l21 y21 z21 st21 hQ21
        subst l21 y21 z21
        obtain ⟨rfl, Nq21, e21⟩ := hQ21
        have N21 := Fr.app N18 Nq21
        have hc22 : (((np_10.toInt64) * (8 : Int64)) + ((1 : Int64) * ((((ps_10.toInt64) * (v0.toInt64)) + ((ps_10 / (8 : Int32)).toInt64)) + (64 : Int64)))) = v22 := hv22.symm
        have fc23 := (P7_15.keep Kc18)
        have fc24 := (P8_15.keep Kc18 (ninS (Ne.symm ne_b9_b4_15) (ninS P20_15 (ninS P21_15 nin0))))
        have fc25 := (P9_15.keep Kc18 (ninS (Ne.symm ne_b9_b4_15) (ninS P20_15 (ninS P21_15 nin0))))
        have fc26 := (P10_15.keep Kc18 (ninS (Ne.symm ne_b9_b3_9_15) (ninS P22_15 (ninS P23_15 nin0))))
        have fc27 := (fc19.keep Kc18 (ninS ne_b4_b9 (ninS ne_b4_b9_9_15 (ninS ne_b4_b3_10_10_9_15 nin0))))
        obtain ⟨cq28, kq28, q28a, q28b, q28c⟩ := isOf hZ e21 P0_18
        obtain ⟨_, _, ⟨T28, L28, k28, n28⟩, -, X28, ⟨Lc28, hQ28, l28, y28, z28⟩, st28⟩ := X21.virtualBack hx (y := My6) (z := My6) hown (mvT hZ (ww hw 40 rfl)) (mvT hZ (ww hw 41 rfl)) (notFace_of_selects (args := #[]) (mvT hZ (ww hw 43 rfl))) (mvT hZ (ww hw 43 rfl)) (mvT hZ (ww hw 42 rfl)) (by decide) (backOf (W := 0) (rm6_1 l Z a0 hw []  b9 b13_10 b4_15 b3_9_15 b9_9_15 b3_10_10_9_15 b4 hv_18 v0 ps_10 np_10 ((v2 / (ps_10.toInt64)).toInt32) (ps_10 * v0) u_18 (((ps_10 - (1 : Int32)) >>> ((6 : Int32) &&& 31)) + (1 : Int32)) v3 T18.heap n0 O18 S P0_18 P1_18 P2_18 P3_18 P4_18 P5_18 fc20 fc23 fc24 fc25 fc26 P6_18 P7_18 P8_18 P9_18 fc27 ne_b9_b3_9_15 ne_b9_b9_9_15 ne_b9_b3_10_10_9_15 ne_b13_10_b3_9_15 P19_15 P22_15 P23_15 (Ne.symm ne_b4_b3_9_15) P24_15 g_b9 g_b3_9_15 g_b9_9_15 g_b3_10_10_9_15 hNP hSb (own_Lj1 hS hIN (own_La hS hv2) (own_La hS hv3) (Or.inr ⟨hc5, hc7⟩)) rfl rfl np0_18) hZ (ww hw 44 rfl) (ww hw 8 rfl) (by decide) (by decide)) q28a q28c (g := (mkF m 263 #[vi p0, vl p1, ss, vl p2, ss, vl p3, ss, vi p4, vi v0, vl v1, ss, vl v2, ss, vl v3, ss, vi 1, va b4, vl 256, ss, vl v19, ss, vl v20, ss, vi 1, va b9, vl v21, ss, vi 1, vl v22, ss, uu, uu, uu, uu] [(.ref b4), (.long v3), (.ref b9)])) rfl (by rw [hml]; rfl) (Steps.refl _) (argsL := [(.long v3), (.ref b4)]) (rest := []) (lenOf pd_9 rfl) rfl (by show 2 * 0 + _ ≤ _; exact Nat.le_of_eq rfl) (hb hby at_263) (fun _ _ => ⟨rfl, e21, (by decide : 7 + 0 ≤ _), (by decide : 16462 + 0 ≤ _)⟩)
        dsimp only [Pt.U, Pt.locs, Pt.cells, Pt.slots] at X28 l28 y28 z28 st28 hQ28
        subst l28 y28 z28
        obtain ⟨hv_28, u_28, rfl, Nq28, Kc28, P0_28, P1_28, P2_28, P3_28, P4_28, P5_28, P6_28, P7_28, P8_28, P9_28, P10_28, np0_28⟩ := hQ28
        have N28 := Fr.app N21 Nq28
        have O28 := O18.keep Kc28 (allS g_b9 (allS g_b3_9_15 (allS g_b9_9_15 (allS g_b3_10_10_9_15 all0))))
        have K28 : Keep h0 T28.heap [] := K18.trans Kc28 (allS (Or.inr sz_b9) (allS (Or.inr sz_b3_9_15) (allS (Or.inr sz_b9_9_15) (allS (Or.inr sz_b3_10_10_9_15) all0))))
        have fc29 := (fc20.keep Kc28 (ninS (Ne.symm ne_b9_b13_10) (ninS ne_b13_10_b3_9_15 (ninS ne_b13_10_b9_9_15 (ninS ne_b13_10_b3_10_10_9_15 nin0)))))
        obtain ⟨cq30, kq30, q30a, q30b, q30c⟩ := isOf hZ rfl P0_28
        obtain ⟨_, _, ⟨T30, L30, k30, n30⟩, -, X30, ⟨Lc30, hQ30, l30, y30, z30⟩, st30⟩ := X28.virtualBack hx (y := My5) (z := My5) hown (mvT hZ (ww hw 31 rfl)) (mvT hZ (ww hw 32 rfl)) (notFace_of_selects (args := #[]) (mvT hZ (ww hw 34 rfl))) (mvT hZ (ww hw 34 rfl)) (mvT hZ (ww hw 33 rfl)) (by decide) (backOf (W := 0) (rm5_1 l Z a0 hw []  b9 b13_10 b4_15 b3_9_15 b9_9_15 b3_10_10_9_15 hv_28 v0 ps_10 np_10 ((v2 / (ps_10.toInt64)).toInt32) (ps_10 * v0) u_28 (((ps_10 - (1 : Int32)) >>> ((6 : Int32) &&& 31)) + (1 : Int32)) T28.heap n0 O28 S P2_28 P3_28 P4_28 P5_28 fc29) hZ (ww hw 35 rfl) (ww hw 8 rfl) (by decide) (by decide)) q30a q30c (g := (mkF m 268 #[vi p0, vl p1, ss, vl p2, ss, vl p3, ss, vi p4, vi v0, vl v1, ss, vl v2, ss, vl v3, ss, vi 1, va b4, vl 256, ss, vl v19, ss, vl v20, ss, vi 1, va b9, vl v21, ss, vi 1, vl v22, ss, uu, uu, uu, uu] [(.ref b9)])) rfl (by rw [hml]; rfl) (Steps.refl _) (argsL := []) (rest := []) (lenOf pd_3 rfl) rfl (by show 2 * 0 + _ ≤ _; exact Nat.le_of_eq rfl) (hb hby at_268) (fun _ _ => ⟨rfl, rfl, (by decide : 7 + 0 ≤ _), (by decide : 16462 + 0 ≤ _)⟩)
        dsimp only [Pt.U, Pt.locs, Pt.cells, Pt.slots] at X30 l30 y30 z30 st30 hQ30
        subst l30 y30 z30
        obtain ⟨rfl, Nq30, e30⟩ := hQ30
        have N30 := Fr.app N28 Nq30
        obtain ⟨v27, hv27⟩ : ∃ z : Int64, z = (((np_10.toInt64) * (8 : Int64)) + ((1 : Int64) * ((((ps_10.toInt64) * (v0.toInt64)) + ((ps_10 / (8 : Int32)).toInt64)) + (64 : Int64)))) := ⟨_, rfl⟩
        obtain ⟨v28, hv28⟩ : ∃ z : Int64, z = (v21 + v20) := ⟨_, rfl⟩
        have hc31 : v27 = v28 := (own_Lb2 hS hIN hNP hv21 hv27 hv20 hv28 (Or.inr ⟨hc5, rfl, rfl⟩))
        obtain ⟨fs, hr, hrun, hended, hW, hsame⟩ := X30.leave (v := (some (.int 1))) (fun h => by rw [hrt] at h; cases h) hlk
        refine ⟨_, _, pre_8 _ ?_, hrun, hended, _, _, rfl, ?_, ⟨_, rfl⟩, hW, hsame.mono (by decide) (by decide)⟩
        · show Steps p.tables e below (T4.setTop (mkF m 133 #[vi p0, vl p1, ss, vl p2, ss, vl p3, ss, vi p4, vi v0, vl v1, ss, vl v2, ss, vl v3, ss, vi 1, va b4, vl 256, ss, vl v19, ss, vl v20, ss, uu, uu, uu, uu, uu, uu, uu, uu, uu, uu, uu] [(.int (lcmpW (v2 / (256 : Int64)) (v3 / (256 : Int64))))])) _
          refine XS.ifNo X4.here hx rfl (hb hby at_133) rfl (own_lc_eqT hc7).2 ?_
          refine XS.iconst X4.here hx rfl (hb hby at_136) ?_
          refine XS.goto X4.here hx rfl (pc0 := 137) (pc' := 141) rfl (hb hby at_137) (by decide) (by decide) ?_
          refine XS.istore X4.here hx rfl (hb hby at_141) rfl (l' := #[vi p0, vl p1, ss, vl p2, ss, vl p3, ss, vi p4, vi v0, vl v1, ss, vl v2, ss, vl v3, ss, vi 1, va b4, vl 256, ss, vl v19, ss, vl v20, ss, vi 1, uu, uu, uu, uu, uu, uu, uu, uu, uu, uu]) rfl ?_
          refine st9 _ ?_
          refine XS.dup X9.here hx rfl (hb hby at_146) rfl rfl ?_
          refine XS.iload X9.here hx rfl (hb hby at_147) rfl ?_
          refine XS.lload X9.here hx rfl (hb hby at_149) rfl ?_
          show Steps p.tables e below (T9.setTop (mkF m 151 #[vi p0, vl p1, ss, vl p2, ss, vl p3, ss, vi p4, vi v0, vl v1, ss, vl v2, ss, vl v3, ss, vi 1, va b4, vl 256, ss, vl v19, ss, vl v20, ss, vi 1, uu, uu, uu, uu, uu, uu, uu, uu, uu, uu] [(.long v1), (.int v0), (.ref b9), (.ref b9)])) _
          refine st10.trans ?_
          refine XS.astore X10.here hx rfl (hb hby at_154) rfl rfl (l' := #[vi p0, vl p1, ss, vl p2, ss, vl p3, ss, vi p4, vi v0, vl v1, ss, vl v2, ss, vl v3, ss, vi 1, va b4, vl 256, ss, vl v19, ss, vl v20, ss, vi 1, va b9, uu, uu, uu, uu, uu, uu, uu, uu, uu]) rfl ?_
          refine XS.aload X10.here hx rfl (hb hby at_156) rfl rfl ?_
          refine st12.trans ?_
          show Steps p.tables e below (T12.setTop (mkF m 161 #[vi p0, vl p1, ss, vl p2, ss, vl p3, ss, vi p4, vi v0, vl v1, ss, vl v2, ss, vl v3, ss, vi 1, va b4, vl 256, ss, vl v19, ss, vl v20, ss, vi 1, va b9, uu, uu, uu, uu, uu, uu, uu, uu, uu] [(.long (((np_10.toInt64) * (8 : Int64)) + ((0 : Int64) * ((((ps_10.toInt64) * (v0.toInt64)) + ((ps_10 / (8 : Int32)).toInt64)) + (64 : Int64)))))])) _
          rw [← hv21]
          refine XS.lstore X12.here hx rfl (hb hby at_161) rfl (l' := #[vi p0, vl p1, ss, vl p2, ss, vl p3, ss, vi p4, vi v0, vl v1, ss, vl v2, ss, vl v3, ss, vi 1, va b4, vl 256, ss, vl v19, ss, vl v20, ss, vi 1, va b9, vl v21, ss, uu, uu, uu, uu, uu, uu, uu]) rfl ?_
          refine XS.lload X12.here hx rfl (hb hby at_163) rfl ?_
          refine XS.lload X12.here hx rfl (hb hby at_165) rfl ?_
          refine X12.ldc2Long hx hown (mvT hZ (ww hw 4 rfl)) (g := (mkF m 167 #[vi p0, vl p1, ss, vl p2, ss, vl p3, ss, vi p4, vi v0, vl v1, ss, vl v2, ss, vl v3, ss, vi 1, va b4, vl 256, ss, vl v19, ss, vl v20, ss, vi 1, va b9, vl v21, ss, uu, uu, uu, uu, uu, uu, uu] [(.long v19), (.long v21)])) rfl (hb hby at_167) _ ?_
          refine XS.lmul X12.here hx rfl (hb hby at_170) rfl ?_
          refine XS.lcmp X12.here hx rfl (hb hby at_171) rfl ?_
          refine XS.ifNo X12.here hx rfl (hb hby at_172) rfl (own_lc_eqT hc13).2 ?_
          refine XS.iconst X12.here hx rfl (hb hby at_175) ?_
          show Steps p.tables e below (T12.setTop (mkF m 176 #[vi p0, vl p1, ss, vl p2, ss, vl p3, ss, vi p4, vi v0, vl v1, ss, vl v2, ss, vl v3, ss, vi 1, va b4, vl 256, ss, vl v19, ss, vl v20, ss, vi 1, va b9, vl v21, ss, uu, uu, uu, uu, uu, uu, uu] [(.int 1)])) _
          refine XS.goto X12.here hx rfl (pc0 := 176) (pc' := 180) rfl (hb hby at_176) (by decide) (by decide) ?_
          refine XS.istore X12.here hx rfl (hb hby at_180) rfl (l' := #[vi p0, vl p1, ss, vl p2, ss, vl p3, ss, vi p4, vi v0, vl v1, ss, vl v2, ss, vl v3, ss, vi 1, va b4, vl 256, ss, vl v19, ss, vl v20, ss, vi 1, va b9, vl v21, ss, vi 1, uu, uu, uu, uu, uu, uu]) rfl ?_
          refine XS.aload X12.here hx rfl (hb hby at_182) rfl rfl ?_
          refine XS.lload X12.here hx rfl (hb hby at_184) rfl ?_
          refine XS.aload X12.here hx rfl (hb hby at_186) rfl rfl ?_
          refine st15.trans ?_
          refine XS.aload X15.here hx rfl (hb hby at_191) rfl rfl ?_
          refine st16.trans ?_
          show Steps p.tables e below (T16.setTop (mkF m 196 #[vi p0, vl p1, ss, vl p2, ss, vl p3, ss, vi p4, vi v0, vl v1, ss, vl v2, ss, vl v3, ss, vi 1, va b4, vl 256, ss, vl v19, ss, vl v20, ss, vi 1, va b9, vl v21, ss, vi 1, uu, uu, uu, uu, uu, uu] [(.long (((np_10.toInt64) * (8 : Int64)) + ((1 : Int64) * ((((ps_10.toInt64) * (v0.toInt64)) + ((ps_10 / (8 : Int32)).toInt64)) + (64 : Int64)))))])) _
          show Steps p.tables e below (T16.setTop (mkF m 196 #[vi p0, vl p1, ss, vl p2, ss, vl p3, ss, vi p4, vi v0, vl v1, ss, vl v2, ss, vl v3, ss, vi 1, va b4, vl 256, ss, vl v19, ss, vl v20, ss, vi 1, va b9, vl v21, ss, vi 1, uu, uu, uu, uu, uu, uu] [(.long (((np_10.toInt64) * (8 : Int64)) + ((1 : Int64) * ((((ps_10.toInt64) * (v0.toInt64)) + ((ps_10 / (8 : Int32)).toInt64)) + (64 : Int64)))))])) _
          rw [← hv22]
          refine XS.lstore X16.here hx rfl (hb hby at_196) rfl (l' := #[vi p0, vl p1, ss, vl p2, ss, vl p3, ss, vi p4, vi v0, vl v1, ss, vl v2, ss, vl v3, ss, vi 1, va b4, vl 256, ss, vl v19, ss, vl v20, ss, vi 1, va b9, vl v21, ss, vi 1, vl v22, ss, uu, uu, uu, uu]) rfl ?_
          refine XS.iload X16.here hx rfl (hb hby at_198) rfl ?_
          refine XS.ifNo X16.here hx rfl (hb hby at_200) rfl ((if0 _ _).trans (feq (by decide : ¬ ((1 : Int32) = (0 : Int32)))).1) ?_
          refine XS.lload X16.here hx rfl (hb hby at_203) rfl ?_
          refine XS.lload X16.here hx rfl (hb hby at_205) rfl ?_
          refine XS.lload X16.here hx rfl (hb hby at_207) rfl ?_
          refine XS.ladd X16.here hx rfl (hb hby at_209) rfl ?_
          refine XS.lcmp X16.here hx rfl (hb hby at_210) rfl ?_
          show Steps p.tables e below (T16.setTop (mkF m 211 #[vi p0, vl p1, ss, vl p2, ss, vl p3, ss, vi p4, vi v0, vl v1, ss, vl v2, ss, vl v3, ss, vi 1, va b4, vl 256, ss, vl v19, ss, vl v20, ss, vi 1, va b9, vl v21, ss, vi 1, vl v22, ss, uu, uu, uu, uu] [(.int (lcmpW v22 (v21 + v20)))])) _
          refine XS.ifNo X16.here hx rfl (hb hby at_211) rfl (own_lc_eqT hc17).2 ?_
          refine XS.iconst X16.here hx rfl (hb hby at_214) ?_
          refine XS.goto X16.here hx rfl (pc0 := 215) (pc' := 219) rfl (hb hby at_215) (by decide) (by decide) ?_
          refine XS.istore X16.here hx rfl (hb hby at_219) rfl (l' := #[vi p0, vl p1, ss, vl p2, ss, vl p3, ss, vi p4, vi v0, vl v1, ss, vl v2, ss, vl v3, ss, vi 1, va b4, vl 256, ss, vl v19, ss, vl v20, ss, vi 1, va b9, vl v21, ss, vi 1, vl v22, ss, uu, uu, uu, uu]) rfl ?_
          refine XS.iload X16.here hx rfl (hb hby at_221) rfl ?_
          refine XS.ifNo X16.here hx rfl (hb hby at_223) rfl ((if0 _ _).trans (feq (by decide : ¬ ((1 : Int32) = (0 : Int32)))).1) ?_
          refine XS.aload X16.here hx rfl (hb hby at_226) rfl rfl ?_
          refine XS.lconst X16.here hx rfl (hb hby at_228) ?_
          show Steps p.tables e below (T16.setTop (mkF m 229 #[vi p0, vl p1, ss, vl p2, ss, vl p3, ss, vi p4, vi v0, vl v1, ss, vl v2, ss, vl v3, ss, vi 1, va b4, vl 256, ss, vl v19, ss, vl v20, ss, vi 1, va b9, vl v21, ss, vi 1, vl v22, ss, uu, uu, uu, uu] [(.long 0), (.ref b9)])) _
          refine XS.lload X16.here hx rfl (hb hby at_229) rfl ?_
          refine st18.trans ?_
          refine XS.iload X18.here hx rfl (hb hby at_234) rfl ?_
          refine XS.ifNo X18.here hx rfl (hb hby at_236) rfl ((if0 _ _).trans (feq (by decide : ¬ ((1 : Int32) = (0 : Int32)))).1) ?_
          refine XS.aload X18.here hx rfl (hb hby at_239) rfl rfl ?_
          refine st21.trans ?_
          refine XS.lload X21.here hx rfl (hb hby at_244) rfl ?_
          refine XS.lcmp X21.here hx rfl (hb hby at_246) rfl ?_
          show Steps p.tables e below (T21.setTop (mkF m 247 #[vi p0, vl p1, ss, vl p2, ss, vl p3, ss, vi p4, vi v0, vl v1, ss, vl v2, ss, vl v3, ss, vi 1, va b4, vl 256, ss, vl v19, ss, vl v20, ss, vi 1, va b9, vl v21, ss, vi 1, vl v22, ss, uu, uu, uu, uu] [(.int (lcmpW (((np_10.toInt64) * (8 : Int64)) + ((1 : Int64) * ((((ps_10.toInt64) * (v0.toInt64)) + ((ps_10 / (8 : Int32)).toInt64)) + (64 : Int64)))) v22))])) _
          refine XS.ifNo X21.here hx rfl (hb hby at_247) rfl (own_lc_eqT hc22).2 ?_
          refine XS.iconst X21.here hx rfl (hb hby at_250) ?_
          refine XS.goto X21.here hx rfl (pc0 := 251) (pc' := 255) rfl (hb hby at_251) (by decide) (by decide) ?_
          refine XS.istore X21.here hx rfl (hb hby at_255) rfl (l' := #[vi p0, vl p1, ss, vl p2, ss, vl p3, ss, vi p4, vi v0, vl v1, ss, vl v2, ss, vl v3, ss, vi 1, va b4, vl 256, ss, vl v19, ss, vl v20, ss, vi 1, va b9, vl v21, ss, vi 1, vl v22, ss, uu, uu, uu, uu]) rfl ?_
          refine XS.aload X21.here hx rfl (hb hby at_257) rfl rfl ?_
          refine XS.lload X21.here hx rfl (hb hby at_259) rfl ?_
          refine XS.aload X21.here hx rfl (hb hby at_261) rfl rfl ?_
          refine st28.trans ?_
          show Steps p.tables e below (T28.setTop (mkF m 266 #[vi p0, vl p1, ss, vl p2, ss, vl p3, ss, vi p4, vi v0, vl v1, ss, vl v2, ss, vl v3, ss, vi 1, va b4, vl 256, ss, vl v19, ss, vl v20, ss, vi 1, va b9, vl v21, ss, vi 1, vl v22, ss, uu, uu, uu, uu] [])) _
          refine XS.aload X28.here hx rfl (hb hby at_266) rfl rfl ?_
          refine st30.trans ?_
          show Steps p.tables e below (T30.setTop (mkF m 271 #[vi p0, vl p1, ss, vl p2, ss, vl p3, ss, vi p4, vi v0, vl v1, ss, vl v2, ss, vl v3, ss, vi 1, va b4, vl 256, ss, vl v19, ss, vl v20, ss, vi 1, va b9, vl v21, ss, vi 1, vl v22, ss, uu, uu, uu, uu] [(.long (((np_10.toInt64) * (8 : Int64)) + ((1 : Int64) * ((((ps_10.toInt64) * (v0.toInt64)) + ((ps_10 / (8 : Int32)).toInt64)) + (64 : Int64)))))])) _
          rw [← hv27]
          refine XS.lstore X30.here hx rfl (hb hby at_271) rfl (l' := #[vi p0, vl p1, ss, vl p2, ss, vl p3, ss, vi p4, vi v0, vl v1, ss, vl v2, ss, vl v3, ss, vi 1, va b4, vl 256, ss, vl v19, ss, vl v20, ss, vi 1, va b9, vl v21, ss, vi 1, vl v22, ss, vl v27, ss, uu, uu]) rfl ?_
          refine XS.iload X30.here hx rfl (hb hby at_273) rfl ?_
          refine XS.ifNo X30.here hx rfl (hb hby at_275) rfl ((if0 _ _).trans (feq (by decide : ¬ ((1 : Int32) = (0 : Int32)))).1) ?_
          refine XS.lload X30.here hx rfl (hb hby at_278) rfl ?_
          refine XS.lload X30.here hx rfl (hb hby at_280) rfl ?_
          refine XS.ladd X30.here hx rfl (hb hby at_282) rfl ?_
          refine XS.goto X30.here hx rfl (pc0 := 283) (pc' := 295) rfl (hb hby at_283) (by decide) (by decide) ?_
          show Steps p.tables e below (T30.setTop (mkF m 295 #[vi p0, vl p1, ss, vl p2, ss, vl p3, ss, vi p4, vi v0, vl v1, ss, vl v2, ss, vl v3, ss, vi 1, va b4, vl 256, ss, vl v19, ss, vl v20, ss, vi 1, va b9, vl v21, ss, vi 1, vl v22, ss, vl v27, ss, uu, uu] [(.long (v21 + v20))])) _
          rw [← hv28]
          refine XS.lstore X30.here hx rfl (hb hby at_295) rfl (l' := #[vi p0, vl p1, ss, vl p2, ss, vl p3, ss, vi p4, vi v0, vl v1, ss, vl v2, ss, vl v3, ss, vi 1, va b4, vl 256, ss, vl v19, ss, vl v20, ss, vi 1, va b9, vl v21, ss, vi 1, vl v22, ss, vl v27, ss, vl v28, ss]) rfl ?_
          refine XS.iload X30.here hx rfl (hb hby at_297) rfl ?_
          refine XS.ifNo X30.here hx rfl (hb hby at_299) rfl ((if0 _ _).trans (feq (by decide : ¬ ((1 : Int32) = (0 : Int32)))).1) ?_
          refine XS.lload X30.here hx rfl (hb hby at_302) rfl ?_
          refine XS.lload X30.here hx rfl (hb hby at_304) rfl ?_
          refine XS.lcmp X30.here hx rfl (hb hby at_306) rfl ?_
          refine XS.ifNo X30.here hx rfl (hb hby at_307) rfl (own_lc_eqT hc31).2 ?_
          refine XS.iconst X30.here hx rfl (hb hby at_310) ?_
          show Steps p.tables e below (T30.setTop (mkF m 311 #[vi p0, vl p1, ss, vl p2, ss, vl p3, ss, vi p4, vi v0, vl v1, ss, vl v2, ss, vl v3, ss, vi 1, va b4, vl 256, ss, vl v19, ss, vl v20, ss, vi 1, va b9, vl v21, ss, vi 1, vl v22, ss, vl v27, ss, vl v28, ss] [(.int 1)])) _
          refine XS.goto X30.here hx rfl (pc0 := 311) (pc' := 315) rfl (hb hby at_311) (by decide) (by decide) ?_
          exact retN X30 hx (t := .boolean) hrt (by simp) (hb hby at_315) hr
        · show Q0 n0 (some (.int 1)) T30.heap _
          exact (⟨rfl, N30⟩)
      · obtain ⟨T9, h9, X9, e9, E9, A9, D9, -, st9⟩ := newO X4 hx hZ hown (ww hw 6 rfl) (ww hw 7 rfl) (ww hw 8 rfl) e4 (g := (mkF m 143 #[vi p0, vl p1, ss, vl p2, ss, vl p3, ss, vi p4, vi v0, vl v1, ss, vl v2, ss, vl v3, ss, vi 1, va b4, vl 256, ss, vl v19, ss, vl v20, ss, vi 0, uu, uu, uu, uu, uu, uu, uu, uu, uu, uu] [])) rfl (hb hby at_143) (by decide) (by decide)
        obtain ⟨b9, qs9⟩ : ∃ z, z = h4.size := ⟨_, rfl⟩
        rw [← qs9] at A9 D9 st9
        have ne_b4_b9 : b4 ≠ b9 := Nat.ne_of_lt (Nat.lt_of_lt_of_le V_b4.lt (Nat.le_of_eq qs9.symm))
        have g_b9 : n0 ≤ b9 := Nat.le_trans (own_old O4) (Nat.le_of_eq qs9.symm)
        have sz_b9 : h0.size ≤ b9 := Nat.le_trans K4.1 (Nat.le_of_eq qs9.symm)
        have O9 := O4.ext E9
        have K9 : Keep h0 h9 [] := K4.ext E9
        have F_length_b9 : Fld Z h9 b9 sC0 "length" "I" (.int 0) := D9 (Or.inr (ww hw 16 rfl)) (ty := .int) (by decide)
        have F_pageSlots_b9 : Fld Z h9 b9 sC0 "pageSlots" "I" (.int 0) := D9 (Or.inr (ww hw 23 rfl)) (ty := .int) (by decide)
        have F_pages_b9 : Fld Z h9 b9 sC0 "pages" "[Lcom/example/tributary/tributary/model/NodeHashes$Page;" .null := D9 (Or.inr (ww hw 30 rfl)) (ty := (.array (.object sC2))) (by decide)
        have F_pagesMade_b9 : Fld Z h9 b9 sC0 "pagesMade" "I" (.int 0) := D9 (Or.inl (ww hw 38 rfl)) (ty := .int) (by decide)
        have F_held_b9 : Fld Z h9 b9 sC0 "held" "J" (.long 0) := D9 (Or.inl (ww hw 111 rfl)) (ty := .long) (by decide)
        have hS := own_LS hv1
        obtain ⟨_, _, ⟨T10, L10, k10, n10⟩, -, X10, ⟨Lc10, hQ10, l10, y10, z10⟩, st10⟩ := X9.specialBack hx (y := My1) rfl hown (mvT hZ (ww hw 9 rfl)) (mvT hZ (ww hw 10 rfl)) (mvT hZ (ww hw 11 rfl)) (by decide) (backOf (W := 1) (rm1_0 l Z a0 hw []  b9 v0 v1 h9 n0 O9 S A9 F_held_b9 F_length_b9 F_pageSlots_b9 F_pages_b9 F_pagesMade_b9 g_b9 hS) hZ (ww hw 11 rfl) (ww hw 8 rfl) (by decide) (by decide)) (g := (mkF m 151 #[vi p0, vl p1, ss, vl p2, ss, vl p3, ss, vi p4, vi v0, vl v1, ss, vl v2, ss, vl v3, ss, vi 1, va b4, vl 256, ss, vl v19, ss, vl v20, ss, vi 0, uu, uu, uu, uu, uu, uu, uu, uu, uu, uu] [(.long v1), (.int v0), (.ref b9), (.ref b9)])) rfl (by rw [hml]; rfl) (Steps.refl _) (a := b9) (argsL := [(.int v0), (.long v1)]) (rest := [(.ref b9)]) (lenOf pd_2 rfl) rfl (by show 2 * 0 + _ ≤ _; exact Nat.le_of_eq rfl) (hb hby at_151) (fun _ _ => ⟨rfl, e9, (by decide : 2 + 1 ≤ _), (by decide : 69 + 256 ≤ _)⟩)
        dsimp only [Pt.U, Pt.locs, Pt.cells, Pt.slots] at X10 l10 y10 z10 st10 hQ10
        subst l10 y10 z10
        have fc11 := (V_b4.ext E9)
        obtain ⟨b13_10, ps_10, np_10, rfl, Nq10, Kc10, P0_10, P1_10, P2_10, P3_10, P4_10, P5_10, P6_10, P7_10, np0_10⟩ := hQ10
        have N10 := Fr.app N0 Nq10
        have ne_b4_b13_10 : b4 ≠ b13_10 := Nat.ne_of_lt (Nat.lt_of_lt_of_le fc11.lt P7_10)
        have ne_b9_b13_10 : b9 ≠ b13_10 := Nat.ne_of_lt (Nat.lt_of_lt_of_le A9.lt P7_10)
        have g_b13_10 : n0 ≤ b13_10 := Nat.le_trans (own_old O9) P7_10
        have sz_b13_10 : h0.size ≤ b13_10 := Nat.le_trans K9.1 P7_10
        have O10 := O9.keep Kc10 (allS g_b9 all0)
        have K10 : Keep h0 T10.heap [] := K9.trans Kc10 (allS (Or.inr sz_b9) all0)
        have hIN := np0_10
        have hNP := own_LP (own_Ll hv0) hS hIN
        have hSa := own_LSL hS hIN (own_La hS hv2)
        have hSb := own_LSL hS hIN (own_La hS hv3)
        have hFT := own_LFT hS hIN
        obtain ⟨cq12, kq12, q12a, q12b, q12c⟩ := isOf hZ rfl P0_10
        obtain ⟨_, _, ⟨T12, L12, k12, n12⟩, -, X12, ⟨Lc12, hQ12, l12, y12, z12⟩, st12⟩ := X10.virtualBack hx (y := My5) (z := My5) hown (mvT hZ (ww hw 31 rfl)) (mvT hZ (ww hw 32 rfl)) (notFace_of_selects (args := #[]) (mvT hZ (ww hw 34 rfl))) (mvT hZ (ww hw 34 rfl)) (mvT hZ (ww hw 33 rfl)) (by decide) (backOf (W := 0) (rm5_0 l Z a0 hw []  b9 b13_10 (0 : Int64) v0 ps_10 np_10 T10.heap n0 O10 S P2_10 P3_10 P4_10 P5_10 P6_10) hZ (ww hw 35 rfl) (ww hw 8 rfl) (by decide) (by decide)) q12a q12c (g := (mkF m 158 #[vi p0, vl p1, ss, vl p2, ss, vl p3, ss, vi p4, vi v0, vl v1, ss, vl v2, ss, vl v3, ss, vi 1, va b4, vl 256, ss, vl v19, ss, vl v20, ss, vi 0, va b9, uu, uu, uu, uu, uu, uu, uu, uu, uu] [(.ref b9)])) rfl (by rw [hml]; rfl) (Steps.refl _) (argsL := []) (rest := []) (lenOf pd_3 rfl) rfl (by show 2 * 0 + _ ≤ _; exact Nat.le_of_eq rfl) (hb hby at_158) (fun _ _ => ⟨rfl, rfl, (by decide : 3 + 0 ≤ _), (by decide : 325 + 0 ≤ _)⟩)
        dsimp only [Pt.U, Pt.locs, Pt.cells, Pt.slots] at X12 l12 y12 z12 st12 hQ12
        subst l12 y12 z12
        obtain ⟨rfl, Nq12, e12⟩ := hQ12
        have N12 := Fr.app N10 Nq12
        obtain ⟨v29, hv29⟩ : ∃ z : Int64, z = (((np_10.toInt64) * (8 : Int64)) + ((0 : Int64) * ((((ps_10.toInt64) * (v0.toInt64)) + ((ps_10 / (8 : Int32)).toInt64)) + (64 : Int64)))) := ⟨_, rfl⟩
        have hc13 : v29 = (v19 * (8 : Int64)) := (own_Lb0 hS hIN hv29 (Or.inr ⟨hc5, hv19⟩))
        have fc14 := (fc11.keep Kc10 (ninS ne_b4_b9 nin0))
        obtain ⟨cq15, kq15, q15a, q15b, q15c⟩ := isOf hZ e12 P0_10
        obtain ⟨_, _, ⟨T15, L15, k15, n15⟩, -, X15, ⟨Lc15, hQ15, l15, y15, z15⟩, st15⟩ := X12.virtualBack hx (y := My6) (z := My6) hown (mvT hZ (ww hw 40 rfl)) (mvT hZ (ww hw 41 rfl)) (notFace_of_selects (args := #[]) (mvT hZ (ww hw 43 rfl))) (mvT hZ (ww hw 43 rfl)) (mvT hZ (ww hw 42 rfl)) (by decide) (backOf (W := 0) (rm6_0 l Z a0 hw []  b9 b13_10 b4 (0 : Int64) v0 ps_10 np_10 v2 T10.heap n0 O10 S P0_10 P1_10 P2_10 P3_10 P4_10 P5_10 P6_10 fc14 ne_b9_b13_10 (Ne.symm ne_b4_b9) (Ne.symm ne_b4_b13_10) g_b9 g_b13_10 hNP hSa) hZ (ww hw 44 rfl) (ww hw 8 rfl) (by decide) (by decide)) q15a q15c (g := (mkF m 188 #[vi p0, vl p1, ss, vl p2, ss, vl p3, ss, vi p4, vi v0, vl v1, ss, vl v2, ss, vl v3, ss, vi 1, va b4, vl 256, ss, vl v19, ss, vl v20, ss, vi 0, va b9, vl v29, ss, vi 1, uu, uu, uu, uu, uu, uu] [(.ref b4), (.long v2), (.ref b9)])) rfl (by rw [hml]; rfl) (Steps.refl _) (argsL := [(.long v2), (.ref b4)]) (rest := []) (lenOf pd_9 rfl) rfl (by show 2 * 0 + _ ≤ _; exact Nat.le_of_eq rfl) (hb hby at_188) (fun _ _ => ⟨rfl, e12, (by decide : 3 + 4 ≤ _), (by decide : 325 + 16137 ≤ _)⟩)
        dsimp only [Pt.U, Pt.locs, Pt.cells, Pt.slots] at X15 l15 y15 z15 st15 hQ15
        subst l15 y15 z15
        obtain ⟨b4_15, b3_9_15, b9_9_15, b3_10_10_9_15, hv_15, u_15, rfl, Nq15, Kc15, P0_15, P1_15, P2_15, P3_15, P4_15, P5_15, P6_15, P7_15, P8_15, P9_15, P10_15, P11_15, P12_15, P13_15, P14_15, P15_15, P16_15, P17_15, P18_15, P19_15, P20_15, P21_15, P22_15, P23_15, P24_15, np0_15⟩ := hQ15
        have N15 := Fr.app N12 Nq15
        have ne_b4_b4_15 : b4 ≠ b4_15 := Nat.ne_of_lt (Nat.lt_of_lt_of_le fc14.lt P15_15)
        have ne_b9_b4_15 : b9 ≠ b4_15 := Nat.ne_of_lt (Nat.lt_of_lt_of_le P0_10.lt P15_15)
        have ne_b13_10_b4_15 : b13_10 ≠ b4_15 := Nat.ne_of_lt (Nat.lt_of_lt_of_le P6_10.lt P15_15)
        have ne_b4_b3_9_15 : b4 ≠ b3_9_15 := Nat.ne_of_lt (Nat.lt_of_lt_of_le fc14.lt P16_15)
        have ne_b9_b3_9_15 : b9 ≠ b3_9_15 := Nat.ne_of_lt (Nat.lt_of_lt_of_le P0_10.lt P16_15)
        have ne_b13_10_b3_9_15 : b13_10 ≠ b3_9_15 := Nat.ne_of_lt (Nat.lt_of_lt_of_le P6_10.lt P16_15)
        have ne_b4_b9_9_15 : b4 ≠ b9_9_15 := Nat.ne_of_lt (Nat.lt_of_lt_of_le fc14.lt P17_15)
        have ne_b9_b9_9_15 : b9 ≠ b9_9_15 := Nat.ne_of_lt (Nat.lt_of_lt_of_le P0_10.lt P17_15)
        have ne_b13_10_b9_9_15 : b13_10 ≠ b9_9_15 := Nat.ne_of_lt (Nat.lt_of_lt_of_le P6_10.lt P17_15)
        have ne_b4_b3_10_10_9_15 : b4 ≠ b3_10_10_9_15 := Nat.ne_of_lt (Nat.lt_of_lt_of_le fc14.lt P18_15)
        have ne_b9_b3_10_10_9_15 : b9 ≠ b3_10_10_9_15 := Nat.ne_of_lt (Nat.lt_of_lt_of_le P0_10.lt P18_15)
        have ne_b13_10_b3_10_10_9_15 : b13_10 ≠ b3_10_10_9_15 := Nat.ne_of_lt (Nat.lt_of_lt_of_le P6_10.lt P18_15)
        have g_b4_15 : n0 ≤ b4_15 := Nat.le_trans (own_old O10) P15_15
        have sz_b4_15 : h0.size ≤ b4_15 := Nat.le_trans K10.1 P15_15
        have g_b3_9_15 : n0 ≤ b3_9_15 := Nat.le_trans (own_old O10) P16_15
        have sz_b3_9_15 : h0.size ≤ b3_9_15 := Nat.le_trans K10.1 P16_15
        have g_b9_9_15 : n0 ≤ b9_9_15 := Nat.le_trans (own_old O10) P17_15
        have sz_b9_9_15 : h0.size ≤ b9_9_15 := Nat.le_trans K10.1 P17_15
        have g_b3_10_10_9_15 : n0 ≤ b3_10_10_9_15 := Nat.le_trans (own_old O10) P18_15
        have sz_b3_10_10_9_15 : h0.size ≤ b3_10_10_9_15 := Nat.le_trans K10.1 P18_15
        have O15 := O10.keep Kc15 (allS g_b9 (allS g_b13_10 all0))
        have K15 : Keep h0 T15.heap [] := K10.trans Kc15 (allS (Or.inr sz_b9) (allS (Or.inr sz_b13_10) all0))
        obtain ⟨cq16, kq16, q16a, q16b, q16c⟩ := isOf hZ rfl P0_15
        obtain ⟨_, _, ⟨T16, L16, k16, n16⟩, -, X16, ⟨Lc16, hQ16, l16, y16, z16⟩, st16⟩ := X15.virtualBack hx (y := My5) (z := My5) hown (mvT hZ (ww hw 31 rfl)) (mvT hZ (ww hw 32 rfl)) (notFace_of_selects (args := #[]) (mvT hZ (ww hw 34 rfl))) (mvT hZ (ww hw 34 rfl)) (mvT hZ (ww hw 33 rfl)) (by decide) (backOf (W := 0) (rm5_1 l Z a0 hw []  b9 b13_10 b4_15 b3_9_15 b9_9_15 b3_10_10_9_15 hv_15 v0 ps_10 np_10 ((v2 / (ps_10.toInt64)).toInt32) (ps_10 * v0) u_15 (((ps_10 - (1 : Int32)) >>> ((6 : Int32) &&& 31)) + (1 : Int32)) T15.heap n0 O15 S P2_15 P3_15 P4_15 P5_15 P6_15) hZ (ww hw 35 rfl) (ww hw 8 rfl) (by decide) (by decide)) q16a q16c (g := (mkF m 193 #[vi p0, vl p1, ss, vl p2, ss, vl p3, ss, vi p4, vi v0, vl v1, ss, vl v2, ss, vl v3, ss, vi 1, va b4, vl 256, ss, vl v19, ss, vl v20, ss, vi 0, va b9, vl v29, ss, vi 1, uu, uu, uu, uu, uu, uu] [(.ref b9)])) rfl (by rw [hml]; rfl) (Steps.refl _) (argsL := []) (rest := []) (lenOf pd_3 rfl) rfl (by show 2 * 0 + _ ≤ _; exact Nat.le_of_eq rfl) (hb hby at_193) (fun _ _ => ⟨rfl, rfl, (by decide : 7 + 0 ≤ _), (by decide : 16462 + 0 ≤ _)⟩)
        dsimp only [Pt.U, Pt.locs, Pt.cells, Pt.slots] at X16 l16 y16 z16 st16 hQ16
        subst l16 y16 z16
        obtain ⟨rfl, Nq16, e16⟩ := hQ16
        have N16 := Fr.app N15 Nq16
        obtain ⟨v30, hv30⟩ : ∃ z : Int64, z = (((np_10.toInt64) * (8 : Int64)) + ((1 : Int64) * ((((ps_10.toInt64) * (v0.toInt64)) + ((ps_10 / (8 : Int32)).toInt64)) + (64 : Int64)))) := ⟨_, rfl⟩
        have hc17 : v30 = (v29 + v20) := (own_Lb1 hS hIN hNP hv29 hv30 hv20 (Or.inr ⟨hc5, rfl, rfl⟩))
        obtain ⟨cq18, kq18, q18a, q18b, q18c⟩ := isOf hZ e16 P0_15
        obtain ⟨_, _, ⟨T18, L18, k18, n18⟩, -, X18, ⟨Lc18, hQ18, l18, y18, z18⟩, st18⟩ := X16.virtualBack hx (y := My16) (z := My16) hown (mvT hZ (ww hw 112 rfl)) (mvT hZ (ww hw 113 rfl)) (notFace_of_selects (args := #[]) (mvT hZ (ww hw 115 rfl))) (mvT hZ (ww hw 115 rfl)) (mvT hZ (ww hw 114 rfl)) (by decide) (backOf (W := 0) (rm16_0 l Z a0 hw []  b9 b13_10 b4_15 b3_9_15 b9_9_15 b3_10_10_9_15 hv_15 v0 ps_10 np_10 ((v2 / (ps_10.toInt64)).toInt32) (ps_10 * v0) u_15 (((ps_10 - (1 : Int32)) >>> ((6 : Int32) &&& 31)) + (1 : Int32)) v1 T15.heap n0 O15 S P0_15 P1_15 P2_15 P3_15 P4_15 P5_15 P6_15 P7_15 P8_15 P9_15 P10_15 P11_15 P12_15 P13_15 P14_15 ne_b9_b13_10 ne_b9_b4_15 ne_b9_b3_9_15 ne_b9_b9_9_15 ne_b9_b3_10_10_9_15 ne_b13_10_b9_9_15 ne_b13_10_b3_10_10_9_15 P20_15 P21_15 P22_15 P23_15 P24_15 g_b9 g_b9_9_15 g_b3_10_10_9_15 hNP hFT (own_pN hNP) np0_15) hZ (ww hw 116 rfl) (ww hw 8 rfl) (by decide) (by decide)) q18a q18c (g := (mkF m 231 #[vi p0, vl p1, ss, vl p2, ss, vl p3, ss, vi p4, vi v0, vl v1, ss, vl v2, ss, vl v3, ss, vi 1, va b4, vl 256, ss, vl v19, ss, vl v20, ss, vi 0, va b9, vl v29, ss, vi 1, vl v30, ss, uu, uu, uu, uu] [(.long v1), (.long 0), (.ref b9)])) rfl (by rw [hml]; rfl) (Steps.refl _) (argsL := [(.long 0), (.long v1)]) (rest := []) (lenOf pd_11 rfl) rfl (by show 2 * 0 + _ ≤ _; exact Nat.le_of_eq rfl) (hb hby at_231) (fun _ _ => ⟨rfl, e16, (by decide : 7 + 0 ≤ _), (by decide : 16462 + 0 ≤ _)⟩)
        dsimp only [Pt.U, Pt.locs, Pt.cells, Pt.slots] at X18 l18 y18 z18 st18 hQ18
        subst l18 y18 z18
        have fc19 := (fc14.keep Kc15 (ninS ne_b4_b9 (ninS ne_b4_b13_10 nin0)))
        obtain ⟨hv_18, u_18, rfl, Nq18, Kc18, P0_18, P1_18, P2_18, P3_18, P4_18, P5_18, P6_18, P7_18, P8_18, P9_18, np0_18⟩ := hQ18
        have N18 := Fr.app N16 Nq18
        have O18 := O15.keep Kc18 (allS g_b9 (allS g_b9_9_15 (allS g_b3_10_10_9_15 all0)))
        have K18 : Keep h0 T18.heap [] := K15.trans Kc18 (allS (Or.inr sz_b9) (allS (Or.inr sz_b9_9_15) (allS (Or.inr sz_b3_10_10_9_15) all0)))
        have fc20 := (P6_15.keep Kc18 (ninS (Ne.symm ne_b9_b13_10) (ninS ne_b13_10_b9_9_15 (ninS ne_b13_10_b3_10_10_9_15 nin0))))
        obtain ⟨cq21, kq21, q21a, q21b, q21c⟩ := isOf hZ rfl P0_18
        obtain ⟨_, _, ⟨T21, L21, k21, n21⟩, -, X21, ⟨Lc21, hQ21, l21, y21, z21⟩, st21⟩ := X18.virtualBack hx (y := My5) (z := My5) hown (mvT hZ (ww hw 31 rfl)) (mvT hZ (ww hw 32 rfl)) (notFace_of_selects (args := #[]) (mvT hZ (ww hw 34 rfl))) (mvT hZ (ww hw 34 rfl)) (mvT hZ (ww hw 33 rfl)) (by decide) (backOf (W := 0) (rm5_1 l Z a0 hw []  b9 b13_10 b4_15 b3_9_15 b9_9_15 b3_10_10_9_15 hv_18 v0 ps_10 np_10 ((v2 / (ps_10.toInt64)).toInt32) (ps_10 * v0) u_18 (((ps_10 - (1 : Int32)) >>> ((6 : Int32) &&& 31)) + (1 : Int32)) T18.heap n0 O18 S P2_18 P3_18 P4_18 P5_18 fc20) hZ (ww hw 35 rfl) (ww hw 8 rfl) (by decide) (by decide)) q21a q21c (g := (mkF m 241 #[vi p0, vl p1, ss, vl p2, ss, vl p3, ss, vi p4, vi v0, vl v1, ss, vl v2, ss, vl v3, ss, vi 1, va b4, vl 256, ss, vl v19, ss, vl v20, ss, vi 0, va b9, vl v29, ss, vi 1, vl v30, ss, uu, uu, uu, uu] [(.ref b9)])) rfl (by rw [hml]; rfl) (Steps.refl _) (argsL := []) (rest := []) (lenOf pd_3 rfl) rfl (by show 2 * 0 + _ ≤ _; exact Nat.le_of_eq rfl) (hb hby at_241) (fun _ _ => ⟨rfl, rfl, (by decide : 7 + 0 ≤ _), (by decide : 16462 + 0 ≤ _)⟩)
        dsimp only [Pt.U, Pt.locs, Pt.cells, Pt.slots] at X21 l21 y21 z21 st21 hQ21
        subst l21 y21 z21
        obtain ⟨rfl, Nq21, e21⟩ := hQ21
        have N21 := Fr.app N18 Nq21
        have hc22 : (((np_10.toInt64) * (8 : Int64)) + ((1 : Int64) * ((((ps_10.toInt64) * (v0.toInt64)) + ((ps_10 / (8 : Int32)).toInt64)) + (64 : Int64)))) = v30 := hv30.symm
        have fc23 := (P7_15.keep Kc18)
        have fc24 := (P10_15.keep Kc18 (ninS (Ne.symm ne_b9_b3_9_15) (ninS P22_15 (ninS P23_15 nin0))))
        have fc25 := (fc19.keep Kc18 (ninS ne_b4_b9 (ninS ne_b4_b9_9_15 (ninS ne_b4_b3_10_10_9_15 nin0))))
        obtain ⟨cq26, kq26, q26a, q26b, q26c⟩ := isOf hZ e21 P0_18
        obtain ⟨_, _, ⟨T26, L26, k26, n26⟩, -, X26, ⟨Lc26, hQ26, l26, y26, z26⟩, st26⟩ := X21.virtualBack hx (y := My6) (z := My6) hown (mvT hZ (ww hw 40 rfl)) (mvT hZ (ww hw 41 rfl)) (notFace_of_selects (args := #[]) (mvT hZ (ww hw 43 rfl))) (mvT hZ (ww hw 43 rfl)) (mvT hZ (ww hw 42 rfl)) (by decide) (backOf (W := 0) (rm6_2 l Z a0 hw []  b9 b13_10 b4_15 b3_9_15 b9_9_15 b3_10_10_9_15 b4 hv_18 v0 ps_10 np_10 ((v2 / (ps_10.toInt64)).toInt32) (ps_10 * v0) u_18 (((ps_10 - (1 : Int32)) >>> ((6 : Int32) &&& 31)) + (1 : Int32)) v3 T18.heap n0 O18 S P0_18 P1_18 P2_18 P3_18 P4_18 P5_18 fc20 fc23 fc24 P6_18 P9_18 fc25 ne_b9_b13_10 ne_b9_b3_9_15 ne_b9_b3_10_10_9_15 (Ne.symm ne_b4_b9) ne_b13_10_b3_9_15 ne_b13_10_b3_10_10_9_15 (Ne.symm ne_b4_b13_10) g_b9 g_b13_10 hNP hSb (own_Lj2 hS hIN (own_La hS hv2) (own_La hS hv3) hc5 hc7)) hZ (ww hw 44 rfl) (ww hw 8 rfl) (by decide) (by decide)) q26a q26c (g := (mkF m 263 #[vi p0, vl p1, ss, vl p2, ss, vl p3, ss, vi p4, vi v0, vl v1, ss, vl v2, ss, vl v3, ss, vi 1, va b4, vl 256, ss, vl v19, ss, vl v20, ss, vi 0, va b9, vl v29, ss, vi 1, vl v30, ss, uu, uu, uu, uu] [(.ref b4), (.long v3), (.ref b9)])) rfl (by rw [hml]; rfl) (Steps.refl _) (argsL := [(.long v3), (.ref b4)]) (rest := []) (lenOf pd_9 rfl) rfl (by show 2 * 0 + _ ≤ _; exact Nat.le_of_eq rfl) (hb hby at_263) (fun _ _ => ⟨rfl, e21, (by decide : 7 + 4 ≤ _), (by decide : 16462 + 16137 ≤ _)⟩)
        dsimp only [Pt.U, Pt.locs, Pt.cells, Pt.slots] at X26 l26 y26 z26 st26 hQ26
        subst l26 y26 z26
        obtain ⟨b5_26, b3_10_26, b9_10_26, b3_10_10_10_26, hv_26, u_26, rfl, Nq26, Kc26, P0_26, P1_26, P2_26, P3_26, P4_26, P5_26, P6_26, P7_26, P8_26, P9_26, P10_26, P11_26, P12_26, P13_26, P14_26, P15_26, P16_26, P17_26, P18_26, P19_26, P20_26, P21_26, P22_26, P23_26, P24_26, np0_26⟩ := hQ26
        have N26 := Fr.app N21 Nq26
        have ne_b4_b5_26 : b4 ≠ b5_26 := Nat.ne_of_lt (Nat.lt_of_lt_of_le fc25.lt P15_26)
        have ne_b9_b5_26 : b9 ≠ b5_26 := Nat.ne_of_lt (Nat.lt_of_lt_of_le P0_18.lt P15_26)
        have ne_b13_10_b5_26 : b13_10 ≠ b5_26 := Nat.ne_of_lt (Nat.lt_of_lt_of_le fc20.lt P15_26)
        have ne_b4_15_b5_26 : b4_15 ≠ b5_26 := Nat.ne_of_lt (Nat.lt_of_lt_of_le fc23.lt P15_26)
        have ne_b3_9_15_b5_26 : b3_9_15 ≠ b5_26 := Nat.ne_of_lt (Nat.lt_of_lt_of_le fc24.lt P15_26)
        have ne_b9_9_15_b5_26 : b9_9_15 ≠ b5_26 := Nat.ne_of_lt (Nat.lt_of_lt_of_le P6_18.lt P15_26)
        have ne_b3_10_10_9_15_b5_26 : b3_10_10_9_15 ≠ b5_26 := Nat.ne_of_lt (Nat.lt_of_lt_of_le P9_18.lt P15_26)
        have ne_b4_b3_10_26 : b4 ≠ b3_10_26 := Nat.ne_of_lt (Nat.lt_of_lt_of_le fc25.lt P16_26)
        have ne_b9_b3_10_26 : b9 ≠ b3_10_26 := Nat.ne_of_lt (Nat.lt_of_lt_of_le P0_18.lt P16_26)
        have ne_b13_10_b3_10_26 : b13_10 ≠ b3_10_26 := Nat.ne_of_lt (Nat.lt_of_lt_of_le fc20.lt P16_26)
        have ne_b4_15_b3_10_26 : b4_15 ≠ b3_10_26 := Nat.ne_of_lt (Nat.lt_of_lt_of_le fc23.lt P16_26)
        have ne_b3_9_15_b3_10_26 : b3_9_15 ≠ b3_10_26 := Nat.ne_of_lt (Nat.lt_of_lt_of_le fc24.lt P16_26)
        have ne_b9_9_15_b3_10_26 : b9_9_15 ≠ b3_10_26 := Nat.ne_of_lt (Nat.lt_of_lt_of_le P6_18.lt P16_26)
        have ne_b3_10_10_9_15_b3_10_26 : b3_10_10_9_15 ≠ b3_10_26 := Nat.ne_of_lt (Nat.lt_of_lt_of_le P9_18.lt P16_26)
        have ne_b4_b9_10_26 : b4 ≠ b9_10_26 := Nat.ne_of_lt (Nat.lt_of_lt_of_le fc25.lt P17_26)
        have ne_b9_b9_10_26 : b9 ≠ b9_10_26 := Nat.ne_of_lt (Nat.lt_of_lt_of_le P0_18.lt P17_26)
        have ne_b13_10_b9_10_26 : b13_10 ≠ b9_10_26 := Nat.ne_of_lt (Nat.lt_of_lt_of_le fc20.lt P17_26)
        have ne_b4_15_b9_10_26 : b4_15 ≠ b9_10_26 := Nat.ne_of_lt (Nat.lt_of_lt_of_le fc23.lt P17_26)
        have ne_b3_9_15_b9_10_26 : b3_9_15 ≠ b9_10_26 := Nat.ne_of_lt (Nat.lt_of_lt_of_le fc24.lt P17_26)
        have ne_b9_9_15_b9_10_26 : b9_9_15 ≠ b9_10_26 := Nat.ne_of_lt (Nat.lt_of_lt_of_le P6_18.lt P17_26)
        have ne_b3_10_10_9_15_b9_10_26 : b3_10_10_9_15 ≠ b9_10_26 := Nat.ne_of_lt (Nat.lt_of_lt_of_le P9_18.lt P17_26)
        have ne_b4_b3_10_10_10_26 : b4 ≠ b3_10_10_10_26 := Nat.ne_of_lt (Nat.lt_of_lt_of_le fc25.lt P18_26)
        have ne_b9_b3_10_10_10_26 : b9 ≠ b3_10_10_10_26 := Nat.ne_of_lt (Nat.lt_of_lt_of_le P0_18.lt P18_26)
        have ne_b13_10_b3_10_10_10_26 : b13_10 ≠ b3_10_10_10_26 := Nat.ne_of_lt (Nat.lt_of_lt_of_le fc20.lt P18_26)
        have ne_b4_15_b3_10_10_10_26 : b4_15 ≠ b3_10_10_10_26 := Nat.ne_of_lt (Nat.lt_of_lt_of_le fc23.lt P18_26)
        have ne_b3_9_15_b3_10_10_10_26 : b3_9_15 ≠ b3_10_10_10_26 := Nat.ne_of_lt (Nat.lt_of_lt_of_le fc24.lt P18_26)
        have ne_b9_9_15_b3_10_10_10_26 : b9_9_15 ≠ b3_10_10_10_26 := Nat.ne_of_lt (Nat.lt_of_lt_of_le P6_18.lt P18_26)
        have ne_b3_10_10_9_15_b3_10_10_10_26 : b3_10_10_9_15 ≠ b3_10_10_10_26 := Nat.ne_of_lt (Nat.lt_of_lt_of_le P9_18.lt P18_26)
        have g_b5_26 : n0 ≤ b5_26 := Nat.le_trans (own_old O18) P15_26
        have sz_b5_26 : h0.size ≤ b5_26 := Nat.le_trans K18.1 P15_26
        have g_b3_10_26 : n0 ≤ b3_10_26 := Nat.le_trans (own_old O18) P16_26
        have sz_b3_10_26 : h0.size ≤ b3_10_26 := Nat.le_trans K18.1 P16_26
        have g_b9_10_26 : n0 ≤ b9_10_26 := Nat.le_trans (own_old O18) P17_26
        have sz_b9_10_26 : h0.size ≤ b9_10_26 := Nat.le_trans K18.1 P17_26
        have g_b3_10_10_10_26 : n0 ≤ b3_10_10_10_26 := Nat.le_trans (own_old O18) P18_26
        have sz_b3_10_10_10_26 : h0.size ≤ b3_10_10_10_26 := Nat.le_trans K18.1 P18_26
        have O26 := O18.keep Kc26 (allS g_b9 (allS g_b13_10 all0))
        have K26 : Keep h0 T26.heap [] := K18.trans Kc26 (allS (Or.inr sz_b9) (allS (Or.inr sz_b13_10) all0))
        obtain ⟨cq27, kq27, q27a, q27b, q27c⟩ := isOf hZ rfl P0_26
        obtain ⟨_, _, ⟨T27, L27, k27, n27⟩, -, X27, ⟨Lc27, hQ27, l27, y27, z27⟩, st27⟩ := X26.virtualBack hx (y := My5) (z := My5) hown (mvT hZ (ww hw 31 rfl)) (mvT hZ (ww hw 32 rfl)) (notFace_of_selects (args := #[]) (mvT hZ (ww hw 34 rfl))) (mvT hZ (ww hw 34 rfl)) (mvT hZ (ww hw 33 rfl)) (by decide) (backOf (W := 0) (rm5_2 l Z a0 hw []  b9 b13_10 b5_26 b3_10_26 b9_10_26 b3_10_10_10_26 b4_15 b3_9_15 b9_9_15 b3_10_10_9_15 hv_26 v0 ps_10 np_10 ((v3 / (ps_10.toInt64)).toInt32) ((v2 / (ps_10.toInt64)).toInt32) (ps_10 * v0) u_26 (((ps_10 - (1 : Int32)) >>> ((6 : Int32) &&& 31)) + (1 : Int32)) (ps_10 * v0) u_18 (((ps_10 - (1 : Int32)) >>> ((6 : Int32) &&& 31)) + (1 : Int32)) T26.heap n0 O26 S P2_26 P3_26 P4_26 P5_26 P6_26) hZ (ww hw 35 rfl) (ww hw 8 rfl) (by decide) (by decide)) q27a q27c (g := (mkF m 268 #[vi p0, vl p1, ss, vl p2, ss, vl p3, ss, vi p4, vi v0, vl v1, ss, vl v2, ss, vl v3, ss, vi 1, va b4, vl 256, ss, vl v19, ss, vl v20, ss, vi 0, va b9, vl v29, ss, vi 1, vl v30, ss, uu, uu, uu, uu] [(.ref b9)])) rfl (by rw [hml]; rfl) (Steps.refl _) (argsL := []) (rest := []) (lenOf pd_3 rfl) rfl (by show 2 * 0 + _ ≤ _; exact Nat.le_of_eq rfl) (hb hby at_268) (fun _ _ => ⟨rfl, rfl, (by decide : 11 + 0 ≤ _), (by decide : 32599 + 0 ≤ _)⟩)
        dsimp only [Pt.U, Pt.locs, Pt.cells, Pt.slots] at X27 l27 y27 z27 st27 hQ27
        subst l27 y27 z27
        obtain ⟨rfl, Nq27, e27⟩ := hQ27
        have N27 := Fr.app N26 Nq27
        obtain ⟨v31, hv31⟩ : ∃ z : Int64, z = (((np_10.toInt64) * (8 : Int64)) + ((2 : Int64) * ((((ps_10.toInt64) * (v0.toInt64)) + ((ps_10 / (8 : Int32)).toInt64)) + (64 : Int64)))) := ⟨_, rfl⟩
        obtain ⟨v32, hv32⟩ : ∃ z : Int64, z = (v29 + ((2 : Int64) * v20)) := ⟨_, rfl⟩
        have hc28 : v31 = v32 := (own_Lb3 hS hIN hNP hv29 hv31 hv20 hv32 (Or.inr ⟨hc5, rfl, rfl⟩))
        obtain ⟨fs, hr, hrun, hended, hW, hsame⟩ := X27.leave (v := (some (.int 1))) (fun h => by rw [hrt] at h; cases h) hlk
        refine ⟨_, _, pre_8 _ ?_, hrun, hended, _, _, rfl, ?_, ⟨_, rfl⟩, hW, hsame.mono (by decide) (by decide)⟩
        · show Steps p.tables e below (T4.setTop (mkF m 133 #[vi p0, vl p1, ss, vl p2, ss, vl p3, ss, vi p4, vi v0, vl v1, ss, vl v2, ss, vl v3, ss, vi 1, va b4, vl 256, ss, vl v19, ss, vl v20, ss, uu, uu, uu, uu, uu, uu, uu, uu, uu, uu, uu] [(.int (lcmpW (v2 / (256 : Int64)) (v3 / (256 : Int64))))])) _
          refine XS.ifYes X4.here hx rfl (pc0 := 133) (pc' := 140) rfl (hb hby at_133) rfl (own_lc_eqF hc7).2 (by decide) (by decide) ?_
          refine XS.iconst X4.here hx rfl (hb hby at_140) ?_
          refine XS.istore X4.here hx rfl (hb hby at_141) rfl (l' := #[vi p0, vl p1, ss, vl p2, ss, vl p3, ss, vi p4, vi v0, vl v1, ss, vl v2, ss, vl v3, ss, vi 1, va b4, vl 256, ss, vl v19, ss, vl v20, ss, vi 0, uu, uu, uu, uu, uu, uu, uu, uu, uu, uu]) rfl ?_
          refine st9 _ ?_
          refine XS.dup X9.here hx rfl (hb hby at_146) rfl rfl ?_
          refine XS.iload X9.here hx rfl (hb hby at_147) rfl ?_
          refine XS.lload X9.here hx rfl (hb hby at_149) rfl ?_
          refine st10.trans ?_
          show Steps p.tables e below (T10.setTop (mkF m 154 #[vi p0, vl p1, ss, vl p2, ss, vl p3, ss, vi p4, vi v0, vl v1, ss, vl v2, ss, vl v3, ss, vi 1, va b4, vl 256, ss, vl v19, ss, vl v20, ss, vi 0, uu, uu, uu, uu, uu, uu, uu, uu, uu, uu] [(.ref b9)])) _
          refine XS.astore X10.here hx rfl (hb hby at_154) rfl rfl (l' := #[vi p0, vl p1, ss, vl p2, ss, vl p3, ss, vi p4, vi v0, vl v1, ss, vl v2, ss, vl v3, ss, vi 1, va b4, vl 256, ss, vl v19, ss, vl v20, ss, vi 0, va b9, uu, uu, uu, uu, uu, uu, uu, uu, uu]) rfl ?_
          refine XS.aload X10.here hx rfl (hb hby at_156) rfl rfl ?_
          refine st12.trans ?_
          show Steps p.tables e below (T12.setTop (mkF m 161 #[vi p0, vl p1, ss, vl p2, ss, vl p3, ss, vi p4, vi v0, vl v1, ss, vl v2, ss, vl v3, ss, vi 1, va b4, vl 256, ss, vl v19, ss, vl v20, ss, vi 0, va b9, uu, uu, uu, uu, uu, uu, uu, uu, uu] [(.long (((np_10.toInt64) * (8 : Int64)) + ((0 : Int64) * ((((ps_10.toInt64) * (v0.toInt64)) + ((ps_10 / (8 : Int32)).toInt64)) + (64 : Int64)))))])) _
          rw [← hv29]
          refine XS.lstore X12.here hx rfl (hb hby at_161) rfl (l' := #[vi p0, vl p1, ss, vl p2, ss, vl p3, ss, vi p4, vi v0, vl v1, ss, vl v2, ss, vl v3, ss, vi 1, va b4, vl 256, ss, vl v19, ss, vl v20, ss, vi 0, va b9, vl v29, ss, uu, uu, uu, uu, uu, uu, uu]) rfl ?_
          refine XS.lload X12.here hx rfl (hb hby at_163) rfl ?_
          refine XS.lload X12.here hx rfl (hb hby at_165) rfl ?_
          refine X12.ldc2Long hx hown (mvT hZ (ww hw 4 rfl)) (g := (mkF m 167 #[vi p0, vl p1, ss, vl p2, ss, vl p3, ss, vi p4, vi v0, vl v1, ss, vl v2, ss, vl v3, ss, vi 1, va b4, vl 256, ss, vl v19, ss, vl v20, ss, vi 0, va b9, vl v29, ss, uu, uu, uu, uu, uu, uu, uu] [(.long v19), (.long v29)])) rfl (hb hby at_167) _ ?_
          refine XS.lmul X12.here hx rfl (hb hby at_170) rfl ?_
          refine XS.lcmp X12.here hx rfl (hb hby at_171) rfl ?_
          refine XS.ifNo X12.here hx rfl (hb hby at_172) rfl (own_lc_eqT hc13).2 ?_
          refine XS.iconst X12.here hx rfl (hb hby at_175) ?_
          show Steps p.tables e below (T12.setTop (mkF m 176 #[vi p0, vl p1, ss, vl p2, ss, vl p3, ss, vi p4, vi v0, vl v1, ss, vl v2, ss, vl v3, ss, vi 1, va b4, vl 256, ss, vl v19, ss, vl v20, ss, vi 0, va b9, vl v29, ss, uu, uu, uu, uu, uu, uu, uu] [(.int 1)])) _
          refine XS.goto X12.here hx rfl (pc0 := 176) (pc' := 180) rfl (hb hby at_176) (by decide) (by decide) ?_
          refine XS.istore X12.here hx rfl (hb hby at_180) rfl (l' := #[vi p0, vl p1, ss, vl p2, ss, vl p3, ss, vi p4, vi v0, vl v1, ss, vl v2, ss, vl v3, ss, vi 1, va b4, vl 256, ss, vl v19, ss, vl v20, ss, vi 0, va b9, vl v29, ss, vi 1, uu, uu, uu, uu, uu, uu]) rfl ?_
          refine XS.aload X12.here hx rfl (hb hby at_182) rfl rfl ?_
          refine XS.lload X12.here hx rfl (hb hby at_184) rfl ?_
          refine XS.aload X12.here hx rfl (hb hby at_186) rfl rfl ?_
          refine st15.trans ?_
          refine XS.aload X15.here hx rfl (hb hby at_191) rfl rfl ?_
          refine st16.trans ?_
          show Steps p.tables e below (T16.setTop (mkF m 196 #[vi p0, vl p1, ss, vl p2, ss, vl p3, ss, vi p4, vi v0, vl v1, ss, vl v2, ss, vl v3, ss, vi 1, va b4, vl 256, ss, vl v19, ss, vl v20, ss, vi 0, va b9, vl v29, ss, vi 1, uu, uu, uu, uu, uu, uu] [(.long (((np_10.toInt64) * (8 : Int64)) + ((1 : Int64) * ((((ps_10.toInt64) * (v0.toInt64)) + ((ps_10 / (8 : Int32)).toInt64)) + (64 : Int64)))))])) _
          show Steps p.tables e below (T16.setTop (mkF m 196 #[vi p0, vl p1, ss, vl p2, ss, vl p3, ss, vi p4, vi v0, vl v1, ss, vl v2, ss, vl v3, ss, vi 1, va b4, vl 256, ss, vl v19, ss, vl v20, ss, vi 0, va b9, vl v29, ss, vi 1, uu, uu, uu, uu, uu, uu] [(.long (((np_10.toInt64) * (8 : Int64)) + ((1 : Int64) * ((((ps_10.toInt64) * (v0.toInt64)) + ((ps_10 / (8 : Int32)).toInt64)) + (64 : Int64)))))])) _
          rw [← hv30]
          refine XS.lstore X16.here hx rfl (hb hby at_196) rfl (l' := #[vi p0, vl p1, ss, vl p2, ss, vl p3, ss, vi p4, vi v0, vl v1, ss, vl v2, ss, vl v3, ss, vi 1, va b4, vl 256, ss, vl v19, ss, vl v20, ss, vi 0, va b9, vl v29, ss, vi 1, vl v30, ss, uu, uu, uu, uu]) rfl ?_
          refine XS.iload X16.here hx rfl (hb hby at_198) rfl ?_
          refine XS.ifNo X16.here hx rfl (hb hby at_200) rfl ((if0 _ _).trans (feq (by decide : ¬ ((1 : Int32) = (0 : Int32)))).1) ?_
          refine XS.lload X16.here hx rfl (hb hby at_203) rfl ?_
          refine XS.lload X16.here hx rfl (hb hby at_205) rfl ?_
          refine XS.lload X16.here hx rfl (hb hby at_207) rfl ?_
          refine XS.ladd X16.here hx rfl (hb hby at_209) rfl ?_
          refine XS.lcmp X16.here hx rfl (hb hby at_210) rfl ?_
          show Steps p.tables e below (T16.setTop (mkF m 211 #[vi p0, vl p1, ss, vl p2, ss, vl p3, ss, vi p4, vi v0, vl v1, ss, vl v2, ss, vl v3, ss, vi 1, va b4, vl 256, ss, vl v19, ss, vl v20, ss, vi 0, va b9, vl v29, ss, vi 1, vl v30, ss, uu, uu, uu, uu] [(.int (lcmpW v30 (v29 + v20)))])) _
          refine XS.ifNo X16.here hx rfl (hb hby at_211) rfl (own_lc_eqT hc17).2 ?_
          refine XS.iconst X16.here hx rfl (hb hby at_214) ?_
          refine XS.goto X16.here hx rfl (pc0 := 215) (pc' := 219) rfl (hb hby at_215) (by decide) (by decide) ?_
          refine XS.istore X16.here hx rfl (hb hby at_219) rfl (l' := #[vi p0, vl p1, ss, vl p2, ss, vl p3, ss, vi p4, vi v0, vl v1, ss, vl v2, ss, vl v3, ss, vi 1, va b4, vl 256, ss, vl v19, ss, vl v20, ss, vi 0, va b9, vl v29, ss, vi 1, vl v30, ss, uu, uu, uu, uu]) rfl ?_
          refine XS.iload X16.here hx rfl (hb hby at_221) rfl ?_
          refine XS.ifNo X16.here hx rfl (hb hby at_223) rfl ((if0 _ _).trans (feq (by decide : ¬ ((1 : Int32) = (0 : Int32)))).1) ?_
          refine XS.aload X16.here hx rfl (hb hby at_226) rfl rfl ?_
          refine XS.lconst X16.here hx rfl (hb hby at_228) ?_
          show Steps p.tables e below (T16.setTop (mkF m 229 #[vi p0, vl p1, ss, vl p2, ss, vl p3, ss, vi p4, vi v0, vl v1, ss, vl v2, ss, vl v3, ss, vi 1, va b4, vl 256, ss, vl v19, ss, vl v20, ss, vi 0, va b9, vl v29, ss, vi 1, vl v30, ss, uu, uu, uu, uu] [(.long 0), (.ref b9)])) _
          refine XS.lload X16.here hx rfl (hb hby at_229) rfl ?_
          refine st18.trans ?_
          refine XS.iload X18.here hx rfl (hb hby at_234) rfl ?_
          refine XS.ifNo X18.here hx rfl (hb hby at_236) rfl ((if0 _ _).trans (feq (by decide : ¬ ((1 : Int32) = (0 : Int32)))).1) ?_
          refine XS.aload X18.here hx rfl (hb hby at_239) rfl rfl ?_
          refine st21.trans ?_
          refine XS.lload X21.here hx rfl (hb hby at_244) rfl ?_
          refine XS.lcmp X21.here hx rfl (hb hby at_246) rfl ?_
          show Steps p.tables e below (T21.setTop (mkF m 247 #[vi p0, vl p1, ss, vl p2, ss, vl p3, ss, vi p4, vi v0, vl v1, ss, vl v2, ss, vl v3, ss, vi 1, va b4, vl 256, ss, vl v19, ss, vl v20, ss, vi 0, va b9, vl v29, ss, vi 1, vl v30, ss, uu, uu, uu, uu] [(.int (lcmpW (((np_10.toInt64) * (8 : Int64)) + ((1 : Int64) * ((((ps_10.toInt64) * (v0.toInt64)) + ((ps_10 / (8 : Int32)).toInt64)) + (64 : Int64)))) v30))])) _
          refine XS.ifNo X21.here hx rfl (hb hby at_247) rfl (own_lc_eqT hc22).2 ?_
          refine XS.iconst X21.here hx rfl (hb hby at_250) ?_
          refine XS.goto X21.here hx rfl (pc0 := 251) (pc' := 255) rfl (hb hby at_251) (by decide) (by decide) ?_
          refine XS.istore X21.here hx rfl (hb hby at_255) rfl (l' := #[vi p0, vl p1, ss, vl p2, ss, vl p3, ss, vi p4, vi v0, vl v1, ss, vl v2, ss, vl v3, ss, vi 1, va b4, vl 256, ss, vl v19, ss, vl v20, ss, vi 0, va b9, vl v29, ss, vi 1, vl v30, ss, uu, uu, uu, uu]) rfl ?_
          refine XS.aload X21.here hx rfl (hb hby at_257) rfl rfl ?_
          refine XS.lload X21.here hx rfl (hb hby at_259) rfl ?_
          refine XS.aload X21.here hx rfl (hb hby at_261) rfl rfl ?_
          refine st26.trans ?_
          show Steps p.tables e below (T26.setTop (mkF m 266 #[vi p0, vl p1, ss, vl p2, ss, vl p3, ss, vi p4, vi v0, vl v1, ss, vl v2, ss, vl v3, ss, vi 1, va b4, vl 256, ss, vl v19, ss, vl v20, ss, vi 0, va b9, vl v29, ss, vi 1, vl v30, ss, uu, uu, uu, uu] [])) _
          refine XS.aload X26.here hx rfl (hb hby at_266) rfl rfl ?_
          refine st27.trans ?_
          show Steps p.tables e below (T27.setTop (mkF m 271 #[vi p0, vl p1, ss, vl p2, ss, vl p3, ss, vi p4, vi v0, vl v1, ss, vl v2, ss, vl v3, ss, vi 1, va b4, vl 256, ss, vl v19, ss, vl v20, ss, vi 0, va b9, vl v29, ss, vi 1, vl v30, ss, uu, uu, uu, uu] [(.long (((np_10.toInt64) * (8 : Int64)) + ((2 : Int64) * ((((ps_10.toInt64) * (v0.toInt64)) + ((ps_10 / (8 : Int32)).toInt64)) + (64 : Int64)))))])) _
          rw [← hv31]
          refine XS.lstore X27.here hx rfl (hb hby at_271) rfl (l' := #[vi p0, vl p1, ss, vl p2, ss, vl p3, ss, vi p4, vi v0, vl v1, ss, vl v2, ss, vl v3, ss, vi 1, va b4, vl 256, ss, vl v19, ss, vl v20, ss, vi 0, va b9, vl v29, ss, vi 1, vl v30, ss, vl v31, ss, uu, uu]) rfl ?_
          refine XS.iload X27.here hx rfl (hb hby at_273) rfl ?_
          refine XS.ifYes X27.here hx rfl (pc0 := 275) (pc' := 286) rfl (hb hby at_275) rfl ((if0 _ _).trans (teq (by decide : (0 : Int32) = (0 : Int32))).1) (by decide) (by decide) ?_
          refine XS.lload X27.here hx rfl (hb hby at_286) rfl ?_
          refine X27.ldc2Long hx hown (mvT hZ (ww hw 145 rfl)) (g := (mkF m 288 #[vi p0, vl p1, ss, vl p2, ss, vl p3, ss, vi p4, vi v0, vl v1, ss, vl v2, ss, vl v3, ss, vi 1, va b4, vl 256, ss, vl v19, ss, vl v20, ss, vi 0, va b9, vl v29, ss, vi 1, vl v30, ss, vl v31, ss, uu, uu] [(.long v29)])) rfl (hb hby at_288) _ ?_
          refine XS.lload X27.here hx rfl (hb hby at_291) rfl ?_
          refine XS.lmul X27.here hx rfl (hb hby at_293) rfl ?_
          refine XS.ladd X27.here hx rfl (hb hby at_294) rfl ?_
          show Steps p.tables e below (T27.setTop (mkF m 295 #[vi p0, vl p1, ss, vl p2, ss, vl p3, ss, vi p4, vi v0, vl v1, ss, vl v2, ss, vl v3, ss, vi 1, va b4, vl 256, ss, vl v19, ss, vl v20, ss, vi 0, va b9, vl v29, ss, vi 1, vl v30, ss, vl v31, ss, uu, uu] [(.long (v29 + ((2 : Int64) * v20)))])) _
          show Steps p.tables e below (T27.setTop (mkF m 295 #[vi p0, vl p1, ss, vl p2, ss, vl p3, ss, vi p4, vi v0, vl v1, ss, vl v2, ss, vl v3, ss, vi 1, va b4, vl 256, ss, vl v19, ss, vl v20, ss, vi 0, va b9, vl v29, ss, vi 1, vl v30, ss, vl v31, ss, uu, uu] [(.long (v29 + ((2 : Int64) * v20)))])) _
          rw [← hv32]
          refine XS.lstore X27.here hx rfl (hb hby at_295) rfl (l' := #[vi p0, vl p1, ss, vl p2, ss, vl p3, ss, vi p4, vi v0, vl v1, ss, vl v2, ss, vl v3, ss, vi 1, va b4, vl 256, ss, vl v19, ss, vl v20, ss, vi 0, va b9, vl v29, ss, vi 1, vl v30, ss, vl v31, ss, vl v32, ss]) rfl ?_
          refine XS.iload X27.here hx rfl (hb hby at_297) rfl ?_
          refine XS.ifNo X27.here hx rfl (hb hby at_299) rfl ((if0 _ _).trans (feq (by decide : ¬ ((1 : Int32) = (0 : Int32)))).1) ?_
          refine XS.lload X27.here hx rfl (hb hby at_302) rfl ?_
          refine XS.lload X27.here hx rfl (hb hby at_304) rfl ?_
          refine XS.lcmp X27.here hx rfl (hb hby at_306) rfl ?_
          refine XS.ifNo X27.here hx rfl (hb hby at_307) rfl (own_lc_eqT hc28).2 ?_
          refine XS.iconst X27.here hx rfl (hb hby at_310) ?_
          show Steps p.tables e below (T27.setTop (mkF m 311 #[vi p0, vl p1, ss, vl p2, ss, vl p3, ss, vi p4, vi v0, vl v1, ss, vl v2, ss, vl v3, ss, vi 1, va b4, vl 256, ss, vl v19, ss, vl v20, ss, vi 0, va b9, vl v29, ss, vi 1, vl v30, ss, vl v31, ss, vl v32, ss] [(.int 1)])) _
          refine XS.goto X27.here hx rfl (pc0 := 311) (pc' := 315) rfl (hb hby at_311) (by decide) (by decide) ?_
          exact retN X27 hx (t := .boolean) hrt (by simp) (hb hby at_315) hr
        · show Q0 n0 (some (.int 1)) T27.heap _
          exact (⟨rfl, N27⟩)
    · obtain ⟨v33, hv33⟩ : ∃ z : Int64, z = (((v1 * (v0.toInt64)) + (v1 / (8 : Int64))) + (64 : Int64)) := ⟨_, rfl⟩
      obtain ⟨T7, h7, X7, e7, E7, A7, D7, -, st7⟩ := newO X4 hx hZ hown (ww hw 6 rfl) (ww hw 7 rfl) (ww hw 8 rfl) e4 (g := (mkF m 143 #[vi p0, vl p1, ss, vl p2, ss, vl p3, ss, vi p4, vi v0, vl v1, ss, vl v2, ss, vl v3, ss, vi 1, va b4, vl v1, ss, vl 1, ss, vl v33, ss, vi 1, uu, uu, uu, uu, uu, uu, uu, uu, uu, uu] [])) rfl (hb hby at_143) (by decide) (by decide)
      obtain ⟨b7, qs7⟩ : ∃ z, z = h4.size := ⟨_, rfl⟩
      rw [← qs7] at A7 D7 st7
      have ne_b4_b7 : b4 ≠ b7 := Nat.ne_of_lt (Nat.lt_of_lt_of_le V_b4.lt (Nat.le_of_eq qs7.symm))
      have g_b7 : n0 ≤ b7 := Nat.le_trans (own_old O4) (Nat.le_of_eq qs7.symm)
      have sz_b7 : h0.size ≤ b7 := Nat.le_trans K4.1 (Nat.le_of_eq qs7.symm)
      have O7 := O4.ext E7
      have K7 : Keep h0 h7 [] := K4.ext E7
      have F_length_b7 : Fld Z h7 b7 sC0 "length" "I" (.int 0) := D7 (Or.inr (ww hw 16 rfl)) (ty := .int) (by decide)
      have F_pageSlots_b7 : Fld Z h7 b7 sC0 "pageSlots" "I" (.int 0) := D7 (Or.inr (ww hw 23 rfl)) (ty := .int) (by decide)
      have F_pages_b7 : Fld Z h7 b7 sC0 "pages" "[Lcom/example/tributary/tributary/model/NodeHashes$Page;" .null := D7 (Or.inr (ww hw 30 rfl)) (ty := (.array (.object sC2))) (by decide)
      have F_pagesMade_b7 : Fld Z h7 b7 sC0 "pagesMade" "I" (.int 0) := D7 (Or.inl (ww hw 38 rfl)) (ty := .int) (by decide)
      have F_held_b7 : Fld Z h7 b7 sC0 "held" "J" (.long 0) := D7 (Or.inl (ww hw 111 rfl)) (ty := .long) (by decide)
      have hS := own_LS hv1
      obtain ⟨_, _, ⟨T8, L8, k8, n8⟩, -, X8, ⟨Lc8, hQ8, l8, y8, z8⟩, st8⟩ := X7.specialBack hx (y := My1) rfl hown (mvT hZ (ww hw 9 rfl)) (mvT hZ (ww hw 10 rfl)) (mvT hZ (ww hw 11 rfl)) (by decide) (backOf (W := 1) (rm1_0 l Z a0 hw []  b7 v0 v1 h7 n0 O7 S A7 F_held_b7 F_length_b7 F_pageSlots_b7 F_pages_b7 F_pagesMade_b7 g_b7 hS) hZ (ww hw 11 rfl) (ww hw 8 rfl) (by decide) (by decide)) (g := (mkF m 151 #[vi p0, vl p1, ss, vl p2, ss, vl p3, ss, vi p4, vi v0, vl v1, ss, vl v2, ss, vl v3, ss, vi 1, va b4, vl v1, ss, vl 1, ss, vl v33, ss, vi 1, uu, uu, uu, uu, uu, uu, uu, uu, uu, uu] [(.long v1), (.int v0), (.ref b7), (.ref b7)])) rfl (by rw [hml]; rfl) (Steps.refl _) (a := b7) (argsL := [(.int v0), (.long v1)]) (rest := [(.ref b7)]) (lenOf pd_2 rfl) rfl (by show 2 * 0 + _ ≤ _; exact Nat.le_of_eq rfl) (hb hby at_151) (fun _ _ => ⟨rfl, e7, (by decide : 2 + 1 ≤ _), (by decide : 69 + 256 ≤ _)⟩)
      dsimp only [Pt.U, Pt.locs, Pt.cells, Pt.slots] at X8 l8 y8 z8 st8 hQ8
      subst l8 y8 z8
      have fc9 := (V_b4.ext E7)
      obtain ⟨b13_8, ps_8, np_8, rfl, Nq8, Kc8, P0_8, P1_8, P2_8, P3_8, P4_8, P5_8, P6_8, P7_8, np0_8⟩ := hQ8
      have N8 := Fr.app N0 Nq8
      have ne_b4_b13_8 : b4 ≠ b13_8 := Nat.ne_of_lt (Nat.lt_of_lt_of_le fc9.lt P7_8)
      have ne_b7_b13_8 : b7 ≠ b13_8 := Nat.ne_of_lt (Nat.lt_of_lt_of_le A7.lt P7_8)
      have g_b13_8 : n0 ≤ b13_8 := Nat.le_trans (own_old O7) P7_8
      have sz_b13_8 : h0.size ≤ b13_8 := Nat.le_trans K7.1 P7_8
      have O8 := O7.keep Kc8 (allS g_b7 all0)
      have K8 : Keep h0 T8.heap [] := K7.trans Kc8 (allS (Or.inr sz_b7) all0)
      have hIN := np0_8
      have hNP := own_LP (own_Ll hv0) hS hIN
      have hSa := own_LSL hS hIN (own_La hS hv2)
      have hSb := own_LSL hS hIN (own_La hS hv3)
      have hFT := own_LFT hS hIN
      obtain ⟨cq10, kq10, q10a, q10b, q10c⟩ := isOf hZ rfl P0_8
      obtain ⟨_, _, ⟨T10, L10, k10, n10⟩, -, X10, ⟨Lc10, hQ10, l10, y10, z10⟩, st10⟩ := X8.virtualBack hx (y := My5) (z := My5) hown (mvT hZ (ww hw 31 rfl)) (mvT hZ (ww hw 32 rfl)) (notFace_of_selects (args := #[]) (mvT hZ (ww hw 34 rfl))) (mvT hZ (ww hw 34 rfl)) (mvT hZ (ww hw 33 rfl)) (by decide) (backOf (W := 0) (rm5_0 l Z a0 hw []  b7 b13_8 (0 : Int64) v0 ps_8 np_8 T8.heap n0 O8 S P2_8 P3_8 P4_8 P5_8 P6_8) hZ (ww hw 35 rfl) (ww hw 8 rfl) (by decide) (by decide)) q10a q10c (g := (mkF m 158 #[vi p0, vl p1, ss, vl p2, ss, vl p3, ss, vi p4, vi v0, vl v1, ss, vl v2, ss, vl v3, ss, vi 1, va b4, vl v1, ss, vl 1, ss, vl v33, ss, vi 1, va b7, uu, uu, uu, uu, uu, uu, uu, uu, uu] [(.ref b7)])) rfl (by rw [hml]; rfl) (Steps.refl _) (argsL := []) (rest := []) (lenOf pd_3 rfl) rfl (by show 2 * 0 + _ ≤ _; exact Nat.le_of_eq rfl) (hb hby at_158) (fun _ _ => ⟨rfl, rfl, (by decide : 3 + 0 ≤ _), (by decide : 325 + 0 ≤ _)⟩)
      dsimp only [Pt.U, Pt.locs, Pt.cells, Pt.slots] at X10 l10 y10 z10 st10 hQ10
      subst l10 y10 z10
      obtain ⟨rfl, Nq10, e10⟩ := hQ10
      have N10 := Fr.app N8 Nq10
      obtain ⟨v34, hv34⟩ : ∃ z : Int64, z = (((np_8.toInt64) * (8 : Int64)) + ((0 : Int64) * ((((ps_8.toInt64) * (v0.toInt64)) + ((ps_8 / (8 : Int32)).toInt64)) + (64 : Int64)))) := ⟨_, rfl⟩
      have hc11 : v34 = (8 : Int64) := ((own_Lb0 (w := (1 : Int64)) hS hIN hv34 (Or.inl ⟨hc5, rfl⟩)).trans (by decide))
      have fc12 := (fc9.keep Kc8 (ninS ne_b4_b7 nin0))
      obtain ⟨cq13, kq13, q13a, q13b, q13c⟩ := isOf hZ e10 P0_8
      obtain ⟨_, _, ⟨T13, L13, k13, n13⟩, -, X13, ⟨Lc13, hQ13, l13, y13, z13⟩, st13⟩ := X10.virtualBack hx (y := My6) (z := My6) hown (mvT hZ (ww hw 40 rfl)) (mvT hZ (ww hw 41 rfl)) (notFace_of_selects (args := #[]) (mvT hZ (ww hw 43 rfl))) (mvT hZ (ww hw 43 rfl)) (mvT hZ (ww hw 42 rfl)) (by decide) (backOf (W := 0) (rm6_0 l Z a0 hw []  b7 b13_8 b4 (0 : Int64) v0 ps_8 np_8 v2 T8.heap n0 O8 S P0_8 P1_8 P2_8 P3_8 P4_8 P5_8 P6_8 fc12 ne_b7_b13_8 (Ne.symm ne_b4_b7) (Ne.symm ne_b4_b13_8) g_b7 g_b13_8 hNP hSa) hZ (ww hw 44 rfl) (ww hw 8 rfl) (by decide) (by decide)) q13a q13c (g := (mkF m 188 #[vi p0, vl p1, ss, vl p2, ss, vl p3, ss, vi p4, vi v0, vl v1, ss, vl v2, ss, vl v3, ss, vi 1, va b4, vl v1, ss, vl 1, ss, vl v33, ss, vi 1, va b7, vl v34, ss, vi 1, uu, uu, uu, uu, uu, uu] [(.ref b4), (.long v2), (.ref b7)])) rfl (by rw [hml]; rfl) (Steps.refl _) (argsL := [(.long v2), (.ref b4)]) (rest := []) (lenOf pd_9 rfl) rfl (by show 2 * 0 + _ ≤ _; exact Nat.le_of_eq rfl) (hb hby at_188) (fun _ _ => ⟨rfl, e10, (by decide : 3 + 4 ≤ _), (by decide : 325 + 16137 ≤ _)⟩)
      dsimp only [Pt.U, Pt.locs, Pt.cells, Pt.slots] at X13 l13 y13 z13 st13 hQ13
      subst l13 y13 z13
      obtain ⟨b4_13, b3_9_13, b9_9_13, b3_10_10_9_13, hv_13, u_13, rfl, Nq13, Kc13, P0_13, P1_13, P2_13, P3_13, P4_13, P5_13, P6_13, P7_13, P8_13, P9_13, P10_13, P11_13, P12_13, P13_13, P14_13, P15_13, P16_13, P17_13, P18_13, P19_13, P20_13, P21_13, P22_13, P23_13, P24_13, np0_13⟩ := hQ13
      have N13 := Fr.app N10 Nq13
      have ne_b4_b4_13 : b4 ≠ b4_13 := Nat.ne_of_lt (Nat.lt_of_lt_of_le fc12.lt P15_13)
      have ne_b7_b4_13 : b7 ≠ b4_13 := Nat.ne_of_lt (Nat.lt_of_lt_of_le P0_8.lt P15_13)
      have ne_b13_8_b4_13 : b13_8 ≠ b4_13 := Nat.ne_of_lt (Nat.lt_of_lt_of_le P6_8.lt P15_13)
      have ne_b4_b3_9_13 : b4 ≠ b3_9_13 := Nat.ne_of_lt (Nat.lt_of_lt_of_le fc12.lt P16_13)
      have ne_b7_b3_9_13 : b7 ≠ b3_9_13 := Nat.ne_of_lt (Nat.lt_of_lt_of_le P0_8.lt P16_13)
      have ne_b13_8_b3_9_13 : b13_8 ≠ b3_9_13 := Nat.ne_of_lt (Nat.lt_of_lt_of_le P6_8.lt P16_13)
      have ne_b4_b9_9_13 : b4 ≠ b9_9_13 := Nat.ne_of_lt (Nat.lt_of_lt_of_le fc12.lt P17_13)
      have ne_b7_b9_9_13 : b7 ≠ b9_9_13 := Nat.ne_of_lt (Nat.lt_of_lt_of_le P0_8.lt P17_13)
      have ne_b13_8_b9_9_13 : b13_8 ≠ b9_9_13 := Nat.ne_of_lt (Nat.lt_of_lt_of_le P6_8.lt P17_13)
      have ne_b4_b3_10_10_9_13 : b4 ≠ b3_10_10_9_13 := Nat.ne_of_lt (Nat.lt_of_lt_of_le fc12.lt P18_13)
      have ne_b7_b3_10_10_9_13 : b7 ≠ b3_10_10_9_13 := Nat.ne_of_lt (Nat.lt_of_lt_of_le P0_8.lt P18_13)
      have ne_b13_8_b3_10_10_9_13 : b13_8 ≠ b3_10_10_9_13 := Nat.ne_of_lt (Nat.lt_of_lt_of_le P6_8.lt P18_13)
      have g_b4_13 : n0 ≤ b4_13 := Nat.le_trans (own_old O8) P15_13
      have sz_b4_13 : h0.size ≤ b4_13 := Nat.le_trans K8.1 P15_13
      have g_b3_9_13 : n0 ≤ b3_9_13 := Nat.le_trans (own_old O8) P16_13
      have sz_b3_9_13 : h0.size ≤ b3_9_13 := Nat.le_trans K8.1 P16_13
      have g_b9_9_13 : n0 ≤ b9_9_13 := Nat.le_trans (own_old O8) P17_13
      have sz_b9_9_13 : h0.size ≤ b9_9_13 := Nat.le_trans K8.1 P17_13
      have g_b3_10_10_9_13 : n0 ≤ b3_10_10_9_13 := Nat.le_trans (own_old O8) P18_13
      have sz_b3_10_10_9_13 : h0.size ≤ b3_10_10_9_13 := Nat.le_trans K8.1 P18_13
      have O13 := O8.keep Kc13 (allS g_b7 (allS g_b13_8 all0))
      have K13 : Keep h0 T13.heap [] := K8.trans Kc13 (allS (Or.inr sz_b7) (allS (Or.inr sz_b13_8) all0))
      obtain ⟨cq14, kq14, q14a, q14b, q14c⟩ := isOf hZ rfl P0_13
      obtain ⟨_, _, ⟨T14, L14, k14, n14⟩, -, X14, ⟨Lc14, hQ14, l14, y14, z14⟩, st14⟩ := X13.virtualBack hx (y := My5) (z := My5) hown (mvT hZ (ww hw 31 rfl)) (mvT hZ (ww hw 32 rfl)) (notFace_of_selects (args := #[]) (mvT hZ (ww hw 34 rfl))) (mvT hZ (ww hw 34 rfl)) (mvT hZ (ww hw 33 rfl)) (by decide) (backOf (W := 0) (rm5_1 l Z a0 hw []  b7 b13_8 b4_13 b3_9_13 b9_9_13 b3_10_10_9_13 hv_13 v0 ps_8 np_8 ((v2 / (ps_8.toInt64)).toInt32) (ps_8 * v0) u_13 (((ps_8 - (1 : Int32)) >>> ((6 : Int32) &&& 31)) + (1 : Int32)) T13.heap n0 O13 S P2_13 P3_13 P4_13 P5_13 P6_13) hZ (ww hw 35 rfl) (ww hw 8 rfl) (by decide) (by decide)) q14a q14c (g := (mkF m 193 #[vi p0, vl p1, ss, vl p2, ss, vl p3, ss, vi p4, vi v0, vl v1, ss, vl v2, ss, vl v3, ss, vi 1, va b4, vl v1, ss, vl 1, ss, vl v33, ss, vi 1, va b7, vl v34, ss, vi 1, uu, uu, uu, uu, uu, uu] [(.ref b7)])) rfl (by rw [hml]; rfl) (Steps.refl _) (argsL := []) (rest := []) (lenOf pd_3 rfl) rfl (by show 2 * 0 + _ ≤ _; exact Nat.le_of_eq rfl) (hb hby at_193) (fun _ _ => ⟨rfl, rfl, (by decide : 7 + 0 ≤ _), (by decide : 16462 + 0 ≤ _)⟩)
      dsimp only [Pt.U, Pt.locs, Pt.cells, Pt.slots] at X14 l14 y14 z14 st14 hQ14
      subst l14 y14 z14
      obtain ⟨rfl, Nq14, e14⟩ := hQ14
      have N14 := Fr.app N13 Nq14
      obtain ⟨v35, hv35⟩ : ∃ z : Int64, z = (((np_8.toInt64) * (8 : Int64)) + ((1 : Int64) * ((((ps_8.toInt64) * (v0.toInt64)) + ((ps_8 / (8 : Int32)).toInt64)) + (64 : Int64)))) := ⟨_, rfl⟩
      have hc15 : v35 = (v34 + v33) := (own_Lb1 hS hIN hNP hv34 hv35 hv33 (Or.inl ⟨hc5, rfl, rfl⟩))
      obtain ⟨cq16, kq16, q16a, q16b, q16c⟩ := isOf hZ e14 P0_13
      obtain ⟨_, _, ⟨T16, L16, k16, n16⟩, -, X16, ⟨Lc16, hQ16, l16, y16, z16⟩, st16⟩ := X14.virtualBack hx (y := My16) (z := My16) hown (mvT hZ (ww hw 112 rfl)) (mvT hZ (ww hw 113 rfl)) (notFace_of_selects (args := #[]) (mvT hZ (ww hw 115 rfl))) (mvT hZ (ww hw 115 rfl)) (mvT hZ (ww hw 114 rfl)) (by decide) (backOf (W := 0) (rm16_0 l Z a0 hw []  b7 b13_8 b4_13 b3_9_13 b9_9_13 b3_10_10_9_13 hv_13 v0 ps_8 np_8 ((v2 / (ps_8.toInt64)).toInt32) (ps_8 * v0) u_13 (((ps_8 - (1 : Int32)) >>> ((6 : Int32) &&& 31)) + (1 : Int32)) v1 T13.heap n0 O13 S P0_13 P1_13 P2_13 P3_13 P4_13 P5_13 P6_13 P7_13 P8_13 P9_13 P10_13 P11_13 P12_13 P13_13 P14_13 ne_b7_b13_8 ne_b7_b4_13 ne_b7_b3_9_13 ne_b7_b9_9_13 ne_b7_b3_10_10_9_13 ne_b13_8_b9_9_13 ne_b13_8_b3_10_10_9_13 P20_13 P21_13 P22_13 P23_13 P24_13 g_b7 g_b9_9_13 g_b3_10_10_9_13 hNP hFT (own_pN hNP) np0_13) hZ (ww hw 116 rfl) (ww hw 8 rfl) (by decide) (by decide)) q16a q16c (g := (mkF m 231 #[vi p0, vl p1, ss, vl p2, ss, vl p3, ss, vi p4, vi v0, vl v1, ss, vl v2, ss, vl v3, ss, vi 1, va b4, vl v1, ss, vl 1, ss, vl v33, ss, vi 1, va b7, vl v34, ss, vi 1, vl v35, ss, uu, uu, uu, uu] [(.long v1), (.long 0), (.ref b7)])) rfl (by rw [hml]; rfl) (Steps.refl _) (argsL := [(.long 0), (.long v1)]) (rest := []) (lenOf pd_11 rfl) rfl (by show 2 * 0 + _ ≤ _; exact Nat.le_of_eq rfl) (hb hby at_231) (fun _ _ => ⟨rfl, e14, (by decide : 7 + 0 ≤ _), (by decide : 16462 + 0 ≤ _)⟩)
      dsimp only [Pt.U, Pt.locs, Pt.cells, Pt.slots] at X16 l16 y16 z16 st16 hQ16
      subst l16 y16 z16
      have fc17 := (fc12.keep Kc13 (ninS ne_b4_b7 (ninS ne_b4_b13_8 nin0)))
      obtain ⟨hv_16, u_16, rfl, Nq16, Kc16, P0_16, P1_16, P2_16, P3_16, P4_16, P5_16, P6_16, P7_16, P8_16, P9_16, np0_16⟩ := hQ16
      have N16 := Fr.app N14 Nq16
      have O16 := O13.keep Kc16 (allS g_b7 (allS g_b9_9_13 (allS g_b3_10_10_9_13 all0)))
      have K16 : Keep h0 T16.heap [] := K13.trans Kc16 (allS (Or.inr sz_b7) (allS (Or.inr sz_b9_9_13) (allS (Or.inr sz_b3_10_10_9_13) all0)))
      have fc18 := (P6_13.keep Kc16 (ninS (Ne.symm ne_b7_b13_8) (ninS ne_b13_8_b9_9_13 (ninS ne_b13_8_b3_10_10_9_13 nin0))))
      obtain ⟨cq19, kq19, q19a, q19b, q19c⟩ := isOf hZ rfl P0_16
      obtain ⟨_, _, ⟨T19, L19, k19, n19⟩, -, X19, ⟨Lc19, hQ19, l19, y19, z19⟩, st19⟩ := X16.virtualBack hx (y := My5) (z := My5) hown (mvT hZ (ww hw 31 rfl)) (mvT hZ (ww hw 32 rfl)) (notFace_of_selects (args := #[]) (mvT hZ (ww hw 34 rfl))) (mvT hZ (ww hw 34 rfl)) (mvT hZ (ww hw 33 rfl)) (by decide) (backOf (W := 0) (rm5_1 l Z a0 hw []  b7 b13_8 b4_13 b3_9_13 b9_9_13 b3_10_10_9_13 hv_16 v0 ps_8 np_8 ((v2 / (ps_8.toInt64)).toInt32) (ps_8 * v0) u_16 (((ps_8 - (1 : Int32)) >>> ((6 : Int32) &&& 31)) + (1 : Int32)) T16.heap n0 O16 S P2_16 P3_16 P4_16 P5_16 fc18) hZ (ww hw 35 rfl) (ww hw 8 rfl) (by decide) (by decide)) q19a q19c (g := (mkF m 241 #[vi p0, vl p1, ss, vl p2, ss, vl p3, ss, vi p4, vi v0, vl v1, ss, vl v2, ss, vl v3, ss, vi 1, va b4, vl v1, ss, vl 1, ss, vl v33, ss, vi 1, va b7, vl v34, ss, vi 1, vl v35, ss, uu, uu, uu, uu] [(.ref b7)])) rfl (by rw [hml]; rfl) (Steps.refl _) (argsL := []) (rest := []) (lenOf pd_3 rfl) rfl (by show 2 * 0 + _ ≤ _; exact Nat.le_of_eq rfl) (hb hby at_241) (fun _ _ => ⟨rfl, rfl, (by decide : 7 + 0 ≤ _), (by decide : 16462 + 0 ≤ _)⟩)
      dsimp only [Pt.U, Pt.locs, Pt.cells, Pt.slots] at X19 l19 y19 z19 st19 hQ19
      subst l19 y19 z19
      obtain ⟨rfl, Nq19, e19⟩ := hQ19
      have N19 := Fr.app N16 Nq19
      have hc20 : (((np_8.toInt64) * (8 : Int64)) + ((1 : Int64) * ((((ps_8.toInt64) * (v0.toInt64)) + ((ps_8 / (8 : Int32)).toInt64)) + (64 : Int64)))) = v35 := hv35.symm
      have fc21 := (P7_13.keep Kc16)
      have fc22 := (P8_13.keep Kc16 (ninS (Ne.symm ne_b7_b4_13) (ninS P20_13 (ninS P21_13 nin0))))
      have fc23 := (P9_13.keep Kc16 (ninS (Ne.symm ne_b7_b4_13) (ninS P20_13 (ninS P21_13 nin0))))
      have fc24 := (P10_13.keep Kc16 (ninS (Ne.symm ne_b7_b3_9_13) (ninS P22_13 (ninS P23_13 nin0))))
      have fc25 := (fc17.keep Kc16 (ninS ne_b4_b7 (ninS ne_b4_b9_9_13 (ninS ne_b4_b3_10_10_9_13 nin0))))
      obtain ⟨cq26, kq26, q26a, q26b, q26c⟩ := isOf hZ e19 P0_16
      obtain ⟨_, _, ⟨T26, L26, k26, n26⟩, -, X26, ⟨Lc26, hQ26, l26, y26, z26⟩, st26⟩ := X19.virtualBack hx (y := My6) (z := My6) hown (mvT hZ (ww hw 40 rfl)) (mvT hZ (ww hw 41 rfl)) (notFace_of_selects (args := #[]) (mvT hZ (ww hw 43 rfl))) (mvT hZ (ww hw 43 rfl)) (mvT hZ (ww hw 42 rfl)) (by decide) (backOf (W := 0) (rm6_1 l Z a0 hw []  b7 b13_8 b4_13 b3_9_13 b9_9_13 b3_10_10_9_13 b4 hv_16 v0 ps_8 np_8 ((v2 / (ps_8.toInt64)).toInt32) (ps_8 * v0) u_16 (((ps_8 - (1 : Int32)) >>> ((6 : Int32) &&& 31)) + (1 : Int32)) v3 T16.heap n0 O16 S P0_16 P1_16 P2_16 P3_16 P4_16 P5_16 fc18 fc21 fc22 fc23 fc24 P6_16 P7_16 P8_16 P9_16 fc25 ne_b7_b3_9_13 ne_b7_b9_9_13 ne_b7_b3_10_10_9_13 ne_b13_8_b3_9_13 P19_13 P22_13 P23_13 (Ne.symm ne_b4_b3_9_13) P24_13 g_b7 g_b3_9_13 g_b9_9_13 g_b3_10_10_9_13 hNP hSb (own_Lj1 hS hIN (own_La hS hv2) (own_La hS hv3) (Or.inl hc5)) rfl rfl np0_16) hZ (ww hw 44 rfl) (ww hw 8 rfl) (by decide) (by decide)) q26a q26c (g := (mkF m 263 #[vi p0, vl p1, ss, vl p2, ss, vl p3, ss, vi p4, vi v0, vl v1, ss, vl v2, ss, vl v3, ss, vi 1, va b4, vl v1, ss, vl 1, ss, vl v33, ss, vi 1, va b7, vl v34, ss, vi 1, vl v35, ss, uu, uu, uu, uu] [(.ref b4), (.long v3), (.ref b7)])) rfl (by rw [hml]; rfl) (Steps.refl _) (argsL := [(.long v3), (.ref b4)]) (rest := []) (lenOf pd_9 rfl) rfl (by show 2 * 0 + _ ≤ _; exact Nat.le_of_eq rfl) (hb hby at_263) (fun _ _ => ⟨rfl, e19, (by decide : 7 + 0 ≤ _), (by decide : 16462 + 0 ≤ _)⟩)
      dsimp only [Pt.U, Pt.locs, Pt.cells, Pt.slots] at X26 l26 y26 z26 st26 hQ26
      subst l26 y26 z26
      obtain ⟨hv_26, u_26, rfl, Nq26, Kc26, P0_26, P1_26, P2_26, P3_26, P4_26, P5_26, P6_26, P7_26, P8_26, P9_26, P10_26, np0_26⟩ := hQ26
      have N26 := Fr.app N19 Nq26
      have O26 := O16.keep Kc26 (allS g_b7 (allS g_b3_9_13 (allS g_b9_9_13 (allS g_b3_10_10_9_13 all0))))
      have K26 : Keep h0 T26.heap [] := K16.trans Kc26 (allS (Or.inr sz_b7) (allS (Or.inr sz_b3_9_13) (allS (Or.inr sz_b9_9_13) (allS (Or.inr sz_b3_10_10_9_13) all0))))
      have fc27 := (fc18.keep Kc26 (ninS (Ne.symm ne_b7_b13_8) (ninS ne_b13_8_b3_9_13 (ninS ne_b13_8_b9_9_13 (ninS ne_b13_8_b3_10_10_9_13 nin0)))))
      obtain ⟨cq28, kq28, q28a, q28b, q28c⟩ := isOf hZ rfl P0_26
      obtain ⟨_, _, ⟨T28, L28, k28, n28⟩, -, X28, ⟨Lc28, hQ28, l28, y28, z28⟩, st28⟩ := X26.virtualBack hx (y := My5) (z := My5) hown (mvT hZ (ww hw 31 rfl)) (mvT hZ (ww hw 32 rfl)) (notFace_of_selects (args := #[]) (mvT hZ (ww hw 34 rfl))) (mvT hZ (ww hw 34 rfl)) (mvT hZ (ww hw 33 rfl)) (by decide) (backOf (W := 0) (rm5_1 l Z a0 hw []  b7 b13_8 b4_13 b3_9_13 b9_9_13 b3_10_10_9_13 hv_26 v0 ps_8 np_8 ((v2 / (ps_8.toInt64)).toInt32) (ps_8 * v0) u_26 (((ps_8 - (1 : Int32)) >>> ((6 : Int32) &&& 31)) + (1 : Int32)) T26.heap n0 O26 S P2_26 P3_26 P4_26 P5_26 fc27) hZ (ww hw 35 rfl) (ww hw 8 rfl) (by decide) (by decide)) q28a q28c (g := (mkF m 268 #[vi p0, vl p1, ss, vl p2, ss, vl p3, ss, vi p4, vi v0, vl v1, ss, vl v2, ss, vl v3, ss, vi 1, va b4, vl v1, ss, vl 1, ss, vl v33, ss, vi 1, va b7, vl v34, ss, vi 1, vl v35, ss, uu, uu, uu, uu] [(.ref b7)])) rfl (by rw [hml]; rfl) (Steps.refl _) (argsL := []) (rest := []) (lenOf pd_3 rfl) rfl (by show 2 * 0 + _ ≤ _; exact Nat.le_of_eq rfl) (hb hby at_268) (fun _ _ => ⟨rfl, rfl, (by decide : 7 + 0 ≤ _), (by decide : 16462 + 0 ≤ _)⟩)
      dsimp only [Pt.U, Pt.locs, Pt.cells, Pt.slots] at X28 l28 y28 z28 st28 hQ28
      subst l28 y28 z28
      obtain ⟨rfl, Nq28, e28⟩ := hQ28
      have N28 := Fr.app N26 Nq28
      obtain ⟨v36, hv36⟩ : ∃ z : Int64, z = (((np_8.toInt64) * (8 : Int64)) + ((1 : Int64) * ((((ps_8.toInt64) * (v0.toInt64)) + ((ps_8 / (8 : Int32)).toInt64)) + (64 : Int64)))) := ⟨_, rfl⟩
      obtain ⟨v37, hv37⟩ : ∃ z : Int64, z = (v34 + v33) := ⟨_, rfl⟩
      have hc29 : v36 = v37 := (own_Lb2 hS hIN hNP hv34 hv36 hv33 hv37 (Or.inl ⟨hc5, rfl, rfl⟩))
      obtain ⟨fs, hr, hrun, hended, hW, hsame⟩ := X28.leave (v := (some (.int 1))) (fun h => by rw [hrt] at h; cases h) hlk
      refine ⟨_, _, pre_6 _ ?_, hrun, hended, _, _, rfl, ?_, ⟨_, rfl⟩, hW, hsame.mono (by decide) (by decide)⟩
      · show Steps p.tables e below (T4.setTop (mkF m 62 #[vi p0, vl p1, ss, vl p2, ss, vl p3, ss, vi p4, vi v0, vl v1, ss, vl v2, ss, vl v3, ss, vi 1, va b4, uu, uu, uu, uu, uu, uu, uu, uu, uu, uu, uu, uu, uu, uu, uu, uu, uu] [(.int (lcmpW v1 (256 : Int64)))])) _
        refine XS.ifNo X4.here hx rfl (hb hby at_62) rfl (own_lc_gtF hc5).1 ?_
        refine XS.lload X4.here hx rfl (hb hby at_65) rfl ?_
        refine XS.lstore X4.here hx rfl (hb hby at_67) rfl (l' := #[vi p0, vl p1, ss, vl p2, ss, vl p3, ss, vi p4, vi v0, vl v1, ss, vl v2, ss, vl v3, ss, vi 1, va b4, vl v1, ss, uu, uu, uu, uu, uu, uu, uu, uu, uu, uu, uu, uu, uu, uu, uu]) rfl ?_
        refine XS.lconst X4.here hx rfl (hb hby at_69) ?_
        refine XS.lstore X4.here hx rfl (hb hby at_70) rfl (l' := #[vi p0, vl p1, ss, vl p2, ss, vl p3, ss, vi p4, vi v0, vl v1, ss, vl v2, ss, vl v3, ss, vi 1, va b4, vl v1, ss, vl 1, ss, uu, uu, uu, uu, uu, uu, uu, uu, uu, uu, uu, uu, uu]) rfl ?_
        refine XS.goto X4.here hx rfl (pc0 := 72) (pc' := 92) rfl (hb hby at_72) (by decide) (by decide) ?_
        refine XS.lload X4.here hx rfl (hb hby at_92) rfl ?_
        refine XS.iload X4.here hx rfl (hb hby at_94) rfl ?_
        show Steps p.tables e below (T4.setTop (mkF m 96 #[vi p0, vl p1, ss, vl p2, ss, vl p3, ss, vi p4, vi v0, vl v1, ss, vl v2, ss, vl v3, ss, vi 1, va b4, vl v1, ss, vl 1, ss, uu, uu, uu, uu, uu, uu, uu, uu, uu, uu, uu, uu, uu] [(.int v0), (.long v1)])) _
        refine XS.i2l X4.here hx rfl (hb hby at_96) rfl ?_
        refine XS.lmul X4.here hx rfl (hb hby at_97) rfl ?_
        refine XS.lload X4.here hx rfl (hb hby at_98) rfl ?_
        refine X4.ldc2Long hx hown (mvT hZ (ww hw 4 rfl)) (g := (mkF m 100 #[vi p0, vl p1, ss, vl p2, ss, vl p3, ss, vi p4, vi v0, vl v1, ss, vl v2, ss, vl v3, ss, vi 1, va b4, vl v1, ss, vl 1, ss, uu, uu, uu, uu, uu, uu, uu, uu, uu, uu, uu, uu, uu] [(.long v1), (.long (v1 * (v0.toInt64)))])) rfl (hb hby at_100) _ ?_
        refine XS.ldiv X4.here hx rfl (hb hby at_103) rfl (by decide) ?_
        refine XS.ladd X4.here hx rfl (hb hby at_104) rfl ?_
        refine X4.ldc2Long hx hown (mvT hZ (ww hw 5 rfl)) (g := (mkF m 105 #[vi p0, vl p1, ss, vl p2, ss, vl p3, ss, vi p4, vi v0, vl v1, ss, vl v2, ss, vl v3, ss, vi 1, va b4, vl v1, ss, vl 1, ss, uu, uu, uu, uu, uu, uu, uu, uu, uu, uu, uu, uu, uu] [(.long ((v1 * (v0.toInt64)) + (v1 / (8 : Int64))))])) rfl (hb hby at_105) _ ?_
        refine XS.ladd X4.here hx rfl (hb hby at_108) rfl ?_
        show Steps p.tables e below (T4.setTop (mkF m 109 #[vi p0, vl p1, ss, vl p2, ss, vl p3, ss, vi p4, vi v0, vl v1, ss, vl v2, ss, vl v3, ss, vi 1, va b4, vl v1, ss, vl 1, ss, uu, uu, uu, uu, uu, uu, uu, uu, uu, uu, uu, uu, uu] [(.long (((v1 * (v0.toInt64)) + (v1 / (8 : Int64))) + (64 : Int64)))])) _
        show Steps p.tables e below (T4.setTop (mkF m 109 #[vi p0, vl p1, ss, vl p2, ss, vl p3, ss, vi p4, vi v0, vl v1, ss, vl v2, ss, vl v3, ss, vi 1, va b4, vl v1, ss, vl 1, ss, uu, uu, uu, uu, uu, uu, uu, uu, uu, uu, uu, uu, uu] [(.long (((v1 * (v0.toInt64)) + (v1 / (8 : Int64))) + (64 : Int64)))])) _
        rw [← hv33]
        refine XS.lstore X4.here hx rfl (hb hby at_109) rfl (l' := #[vi p0, vl p1, ss, vl p2, ss, vl p3, ss, vi p4, vi v0, vl v1, ss, vl v2, ss, vl v3, ss, vi 1, va b4, vl v1, ss, vl 1, ss, vl v33, ss, uu, uu, uu, uu, uu, uu, uu, uu, uu, uu, uu]) rfl ?_
        refine XS.lload X4.here hx rfl (hb hby at_111) rfl ?_
        refine X4.ldc2Long hx hown (mvT hZ (ww hw 3 rfl)) (g := (mkF m 113 #[vi p0, vl p1, ss, vl p2, ss, vl p3, ss, vi p4, vi v0, vl v1, ss, vl v2, ss, vl v3, ss, vi 1, va b4, vl v1, ss, vl 1, ss, vl v33, ss, uu, uu, uu, uu, uu, uu, uu, uu, uu, uu, uu] [(.long v1)])) rfl (hb hby at_113) _ ?_
        refine XS.lcmp X4.here hx rfl (hb hby at_116) rfl ?_
        refine XS.ifYes X4.here hx rfl (pc0 := 117) (pc' := 136) rfl (hb hby at_117) rfl (own_lc_gtF hc5).2 (by decide) (by decide) ?_
        refine XS.iconst X4.here hx rfl (hb hby at_136) ?_
        refine XS.goto X4.here hx rfl (pc0 := 137) (pc' := 141) rfl (hb hby at_137) (by decide) (by decide) ?_
        refine XS.istore X4.here hx rfl (hb hby at_141) rfl (l' := #[vi p0, vl p1, ss, vl p2, ss, vl p3, ss, vi p4, vi v0, vl v1, ss, vl v2, ss, vl v3, ss, vi 1, va b4, vl v1, ss, vl 1, ss, vl v33, ss, vi 1, uu, uu, uu, uu, uu, uu, uu, uu, uu, uu]) rfl ?_
        show Steps p.tables e below (T4.setTop (mkF m 143 #[vi p0, vl p1, ss, vl p2, ss, vl p3, ss, vi p4, vi v0, vl v1, ss, vl v2, ss, vl v3, ss, vi 1, va b4, vl v1, ss, vl 1, ss, vl v33, ss, vi 1, uu, uu, uu, uu, uu, uu, uu, uu, uu, uu] [])) _
        refine st7 _ ?_
        refine XS.dup X7.here hx rfl (hb hby at_146) rfl rfl ?_
        refine XS.iload X7.here hx rfl (hb hby at_147) rfl ?_
        refine XS.lload X7.here hx rfl (hb hby at_149) rfl ?_
        refine st8.trans ?_
        refine XS.astore X8.here hx rfl (hb hby at_154) rfl rfl (l' := #[vi p0, vl p1, ss, vl p2, ss, vl p3, ss, vi p4, vi v0, vl v1, ss, vl v2, ss, vl v3, ss, vi 1, va b4, vl v1, ss, vl 1, ss, vl v33, ss, vi 1, va b7, uu, uu, uu, uu, uu, uu, uu, uu, uu]) rfl ?_
        refine XS.aload X8.here hx rfl (hb hby at_156) rfl rfl ?_
        refine st10.trans ?_
        show Steps p.tables e below (T10.setTop (mkF m 161 #[vi p0, vl p1, ss, vl p2, ss, vl p3, ss, vi p4, vi v0, vl v1, ss, vl v2, ss, vl v3, ss, vi 1, va b4, vl v1, ss, vl 1, ss, vl v33, ss, vi 1, va b7, uu, uu, uu, uu, uu, uu, uu, uu, uu] [(.long (((np_8.toInt64) * (8 : Int64)) + ((0 : Int64) * ((((ps_8.toInt64) * (v0.toInt64)) + ((ps_8 / (8 : Int32)).toInt64)) + (64 : Int64)))))])) _
        show Steps p.tables e below (T10.setTop (mkF m 161 #[vi p0, vl p1, ss, vl p2, ss, vl p3, ss, vi p4, vi v0, vl v1, ss, vl v2, ss, vl v3, ss, vi 1, va b4, vl v1, ss, vl 1, ss, vl v33, ss, vi 1, va b7, uu, uu, uu, uu, uu, uu, uu, uu, uu] [(.long (((np_8.toInt64) * (8 : Int64)) + ((0 : Int64) * ((((ps_8.toInt64) * (v0.toInt64)) + ((ps_8 / (8 : Int32)).toInt64)) + (64 : Int64)))))])) _
        rw [← hv34]
        refine XS.lstore X10.here hx rfl (hb hby at_161) rfl (l' := #[vi p0, vl p1, ss, vl p2, ss, vl p3, ss, vi p4, vi v0, vl v1, ss, vl v2, ss, vl v3, ss, vi 1, va b4, vl v1, ss, vl 1, ss, vl v33, ss, vi 1, va b7, vl v34, ss, uu, uu, uu, uu, uu, uu, uu]) rfl ?_
        refine XS.lload X10.here hx rfl (hb hby at_163) rfl ?_
        refine XS.lload X10.here hx rfl (hb hby at_165) rfl ?_
        refine X10.ldc2Long hx hown (mvT hZ (ww hw 4 rfl)) (g := (mkF m 167 #[vi p0, vl p1, ss, vl p2, ss, vl p3, ss, vi p4, vi v0, vl v1, ss, vl v2, ss, vl v3, ss, vi 1, va b4, vl v1, ss, vl 1, ss, vl v33, ss, vi 1, va b7, vl v34, ss, uu, uu, uu, uu, uu, uu, uu] [(.long 1), (.long v34)])) rfl (hb hby at_167) _ ?_
        refine XS.lmul X10.here hx rfl (hb hby at_170) rfl ?_
        show Steps p.tables e below (T10.setTop (mkF m 171 #[vi p0, vl p1, ss, vl p2, ss, vl p3, ss, vi p4, vi v0, vl v1, ss, vl v2, ss, vl v3, ss, vi 1, va b4, vl v1, ss, vl 1, ss, vl v33, ss, vi 1, va b7, vl v34, ss, uu, uu, uu, uu, uu, uu, uu] [(.long ((1 : Int64) * (8 : Int64))), (.long v34)])) _
        rw [show (((1 : Int64) * (8 : Int64)) : Int64) = (8 : Int64) from by decide]
        refine XS.lcmp X10.here hx rfl (hb hby at_171) rfl ?_
        refine XS.ifNo X10.here hx rfl (hb hby at_172) rfl (own_lc_eqT hc11).2 ?_
        refine XS.iconst X10.here hx rfl (hb hby at_175) ?_
        refine XS.goto X10.here hx rfl (pc0 := 176) (pc' := 180) rfl (hb hby at_176) (by decide) (by decide) ?_
        refine XS.istore X10.here hx rfl (hb hby at_180) rfl (l' := #[vi p0, vl p1, ss, vl p2, ss, vl p3, ss, vi p4, vi v0, vl v1, ss, vl v2, ss, vl v3, ss, vi 1, va b4, vl v1, ss, vl 1, ss, vl v33, ss, vi 1, va b7, vl v34, ss, vi 1, uu, uu, uu, uu, uu, uu]) rfl ?_
        refine XS.aload X10.here hx rfl (hb hby at_182) rfl rfl ?_
        refine XS.lload X10.here hx rfl (hb hby at_184) rfl ?_
        show Steps p.tables e below (T10.setTop (mkF m 186 #[vi p0, vl p1, ss, vl p2, ss, vl p3, ss, vi p4, vi v0, vl v1, ss, vl v2, ss, vl v3, ss, vi 1, va b4, vl v1, ss, vl 1, ss, vl v33, ss, vi 1, va b7, vl v34, ss, vi 1, uu, uu, uu, uu, uu, uu] [(.long v2), (.ref b7)])) _
        refine XS.aload X10.here hx rfl (hb hby at_186) rfl rfl ?_
        refine st13.trans ?_
        refine XS.aload X13.here hx rfl (hb hby at_191) rfl rfl ?_
        refine st14.trans ?_
        show Steps p.tables e below (T14.setTop (mkF m 196 #[vi p0, vl p1, ss, vl p2, ss, vl p3, ss, vi p4, vi v0, vl v1, ss, vl v2, ss, vl v3, ss, vi 1, va b4, vl v1, ss, vl 1, ss, vl v33, ss, vi 1, va b7, vl v34, ss, vi 1, uu, uu, uu, uu, uu, uu] [(.long (((np_8.toInt64) * (8 : Int64)) + ((1 : Int64) * ((((ps_8.toInt64) * (v0.toInt64)) + ((ps_8 / (8 : Int32)).toInt64)) + (64 : Int64)))))])) _
        rw [← hv35]
        refine XS.lstore X14.here hx rfl (hb hby at_196) rfl (l' := #[vi p0, vl p1, ss, vl p2, ss, vl p3, ss, vi p4, vi v0, vl v1, ss, vl v2, ss, vl v3, ss, vi 1, va b4, vl v1, ss, vl 1, ss, vl v33, ss, vi 1, va b7, vl v34, ss, vi 1, vl v35, ss, uu, uu, uu, uu]) rfl ?_
        refine XS.iload X14.here hx rfl (hb hby at_198) rfl ?_
        refine XS.ifNo X14.here hx rfl (hb hby at_200) rfl ((if0 _ _).trans (feq (by decide : ¬ ((1 : Int32) = (0 : Int32)))).1) ?_
        refine XS.lload X14.here hx rfl (hb hby at_203) rfl ?_
        refine XS.lload X14.here hx rfl (hb hby at_205) rfl ?_
        refine XS.lload X14.here hx rfl (hb hby at_207) rfl ?_
        refine XS.ladd X14.here hx rfl (hb hby at_209) rfl ?_
        refine XS.lcmp X14.here hx rfl (hb hby at_210) rfl ?_
        show Steps p.tables e below (T14.setTop (mkF m 211 #[vi p0, vl p1, ss, vl p2, ss, vl p3, ss, vi p4, vi v0, vl v1, ss, vl v2, ss, vl v3, ss, vi 1, va b4, vl v1, ss, vl 1, ss, vl v33, ss, vi 1, va b7, vl v34, ss, vi 1, vl v35, ss, uu, uu, uu, uu] [(.int (lcmpW v35 (v34 + v33)))])) _
        refine XS.ifNo X14.here hx rfl (hb hby at_211) rfl (own_lc_eqT hc15).2 ?_
        refine XS.iconst X14.here hx rfl (hb hby at_214) ?_
        refine XS.goto X14.here hx rfl (pc0 := 215) (pc' := 219) rfl (hb hby at_215) (by decide) (by decide) ?_
        refine XS.istore X14.here hx rfl (hb hby at_219) rfl (l' := #[vi p0, vl p1, ss, vl p2, ss, vl p3, ss, vi p4, vi v0, vl v1, ss, vl v2, ss, vl v3, ss, vi 1, va b4, vl v1, ss, vl 1, ss, vl v33, ss, vi 1, va b7, vl v34, ss, vi 1, vl v35, ss, uu, uu, uu, uu]) rfl ?_
        refine XS.iload X14.here hx rfl (hb hby at_221) rfl ?_
        refine XS.ifNo X14.here hx rfl (hb hby at_223) rfl ((if0 _ _).trans (feq (by decide : ¬ ((1 : Int32) = (0 : Int32)))).1) ?_
        refine XS.aload X14.here hx rfl (hb hby at_226) rfl rfl ?_
        refine XS.lconst X14.here hx rfl (hb hby at_228) ?_
        show Steps p.tables e below (T14.setTop (mkF m 229 #[vi p0, vl p1, ss, vl p2, ss, vl p3, ss, vi p4, vi v0, vl v1, ss, vl v2, ss, vl v3, ss, vi 1, va b4, vl v1, ss, vl 1, ss, vl v33, ss, vi 1, va b7, vl v34, ss, vi 1, vl v35, ss, uu, uu, uu, uu] [(.long 0), (.ref b7)])) _
        refine XS.lload X14.here hx rfl (hb hby at_229) rfl ?_
        refine st16.trans ?_
        refine XS.iload X16.here hx rfl (hb hby at_234) rfl ?_
        refine XS.ifNo X16.here hx rfl (hb hby at_236) rfl ((if0 _ _).trans (feq (by decide : ¬ ((1 : Int32) = (0 : Int32)))).1) ?_
        refine XS.aload X16.here hx rfl (hb hby at_239) rfl rfl ?_
        refine st19.trans ?_
        refine XS.lload X19.here hx rfl (hb hby at_244) rfl ?_
        refine XS.lcmp X19.here hx rfl (hb hby at_246) rfl ?_
        show Steps p.tables e below (T19.setTop (mkF m 247 #[vi p0, vl p1, ss, vl p2, ss, vl p3, ss, vi p4, vi v0, vl v1, ss, vl v2, ss, vl v3, ss, vi 1, va b4, vl v1, ss, vl 1, ss, vl v33, ss, vi 1, va b7, vl v34, ss, vi 1, vl v35, ss, uu, uu, uu, uu] [(.int (lcmpW (((np_8.toInt64) * (8 : Int64)) + ((1 : Int64) * ((((ps_8.toInt64) * (v0.toInt64)) + ((ps_8 / (8 : Int32)).toInt64)) + (64 : Int64)))) v35))])) _
        refine XS.ifNo X19.here hx rfl (hb hby at_247) rfl (own_lc_eqT hc20).2 ?_
        refine XS.iconst X19.here hx rfl (hb hby at_250) ?_
        refine XS.goto X19.here hx rfl (pc0 := 251) (pc' := 255) rfl (hb hby at_251) (by decide) (by decide) ?_
        refine XS.istore X19.here hx rfl (hb hby at_255) rfl (l' := #[vi p0, vl p1, ss, vl p2, ss, vl p3, ss, vi p4, vi v0, vl v1, ss, vl v2, ss, vl v3, ss, vi 1, va b4, vl v1, ss, vl 1, ss, vl v33, ss, vi 1, va b7, vl v34, ss, vi 1, vl v35, ss, uu, uu, uu, uu]) rfl ?_
        refine XS.aload X19.here hx rfl (hb hby at_257) rfl rfl ?_
        refine XS.lload X19.here hx rfl (hb hby at_259) rfl ?_
        refine XS.aload X19.here hx rfl (hb hby at_261) rfl rfl ?_
        refine st26.trans ?_
        show Steps p.tables e below (T26.setTop (mkF m 266 #[vi p0, vl p1, ss, vl p2, ss, vl p3, ss, vi p4, vi v0, vl v1, ss, vl v2, ss, vl v3, ss, vi 1, va b4, vl v1, ss, vl 1, ss, vl v33, ss, vi 1, va b7, vl v34, ss, vi 1, vl v35, ss, uu, uu, uu, uu] [])) _
        refine XS.aload X26.here hx rfl (hb hby at_266) rfl rfl ?_
        refine st28.trans ?_
        show Steps p.tables e below (T28.setTop (mkF m 271 #[vi p0, vl p1, ss, vl p2, ss, vl p3, ss, vi p4, vi v0, vl v1, ss, vl v2, ss, vl v3, ss, vi 1, va b4, vl v1, ss, vl 1, ss, vl v33, ss, vi 1, va b7, vl v34, ss, vi 1, vl v35, ss, uu, uu, uu, uu] [(.long (((np_8.toInt64) * (8 : Int64)) + ((1 : Int64) * ((((ps_8.toInt64) * (v0.toInt64)) + ((ps_8 / (8 : Int32)).toInt64)) + (64 : Int64)))))])) _
        rw [← hv36]
        refine XS.lstore X28.here hx rfl (hb hby at_271) rfl (l' := #[vi p0, vl p1, ss, vl p2, ss, vl p3, ss, vi p4, vi v0, vl v1, ss, vl v2, ss, vl v3, ss, vi 1, va b4, vl v1, ss, vl 1, ss, vl v33, ss, vi 1, va b7, vl v34, ss, vi 1, vl v35, ss, vl v36, ss, uu, uu]) rfl ?_
        refine XS.iload X28.here hx rfl (hb hby at_273) rfl ?_
        refine XS.ifNo X28.here hx rfl (hb hby at_275) rfl ((if0 _ _).trans (feq (by decide : ¬ ((1 : Int32) = (0 : Int32)))).1) ?_
        refine XS.lload X28.here hx rfl (hb hby at_278) rfl ?_
        refine XS.lload X28.here hx rfl (hb hby at_280) rfl ?_
        refine XS.ladd X28.here hx rfl (hb hby at_282) rfl ?_
        refine XS.goto X28.here hx rfl (pc0 := 283) (pc' := 295) rfl (hb hby at_283) (by decide) (by decide) ?_
        show Steps p.tables e below (T28.setTop (mkF m 295 #[vi p0, vl p1, ss, vl p2, ss, vl p3, ss, vi p4, vi v0, vl v1, ss, vl v2, ss, vl v3, ss, vi 1, va b4, vl v1, ss, vl 1, ss, vl v33, ss, vi 1, va b7, vl v34, ss, vi 1, vl v35, ss, vl v36, ss, uu, uu] [(.long (v34 + v33))])) _
        rw [← hv37]
        refine XS.lstore X28.here hx rfl (hb hby at_295) rfl (l' := #[vi p0, vl p1, ss, vl p2, ss, vl p3, ss, vi p4, vi v0, vl v1, ss, vl v2, ss, vl v3, ss, vi 1, va b4, vl v1, ss, vl 1, ss, vl v33, ss, vi 1, va b7, vl v34, ss, vi 1, vl v35, ss, vl v36, ss, vl v37, ss]) rfl ?_
        refine XS.iload X28.here hx rfl (hb hby at_297) rfl ?_
        refine XS.ifNo X28.here hx rfl (hb hby at_299) rfl ((if0 _ _).trans (feq (by decide : ¬ ((1 : Int32) = (0 : Int32)))).1) ?_
        refine XS.lload X28.here hx rfl (hb hby at_302) rfl ?_
        refine XS.lload X28.here hx rfl (hb hby at_304) rfl ?_
        refine XS.lcmp X28.here hx rfl (hb hby at_306) rfl ?_
        refine XS.ifNo X28.here hx rfl (hb hby at_307) rfl (own_lc_eqT hc29).2 ?_
        refine XS.iconst X28.here hx rfl (hb hby at_310) ?_
        show Steps p.tables e below (T28.setTop (mkF m 311 #[vi p0, vl p1, ss, vl p2, ss, vl p3, ss, vi p4, vi v0, vl v1, ss, vl v2, ss, vl v3, ss, vi 1, va b4, vl v1, ss, vl 1, ss, vl v33, ss, vi 1, va b7, vl v34, ss, vi 1, vl v35, ss, vl v36, ss, vl v37, ss] [(.int 1)])) _
        refine XS.goto X28.here hx rfl (pc0 := 311) (pc' := 315) rfl (hb hby at_311) (by decide) (by decide) ?_
        exact retN X28 hx (t := .boolean) hrt (by simp) (hb hby at_315) hr
      · show Q0 n0 (some (.int 1)) T28.heap _
        exact (⟨rfl, N28⟩)
theorem comes_1 {Post : Tables → Env → Array Value → State → Outcome → State → Prop} (hpost : ∀ tb e args s v u, (limb_1_1.after args s (.returned v) u = true ∧ limb_1_2.after args s (.returned v) u = true ∧ True) → FrameEnd s (.returned v) u (Jvm.fieldLocs frame_1_writes args s ++ Jvm.arrayLocs frame_1_arrays args s ++ Jvm.staticLocs frame_1_statics s) 32 65280 → Post tb e args s (.returned v) u) :
    ArmFor flags0 classFile x code maxLocals ret World_1 tables_1 room_1 Calls_1 rest_1 Pre_1 Post := by
  intro l hfl _ _ p e ha hc hk s m args below hf hA hF happ hP
  obtain ⟨hcalls, hrest, hpre⟩ := hP
  obtain ⟨-, -, -, hnamed, -, -, -, hat⟩ := (Spec.applies_iff hf).mp happ
  obtain ⟨hg, hn⟩ := and_e (Cond.before_iff.mp (show (Jvm.Cond.and given_1 narrow_1).before args s = true from hpre))
  obtain ⟨g0, gr0⟩ := and_e hg
  obtain ⟨g1, gr1⟩ := and_e gr0
  obtain ⟨g2, gr2⟩ := and_e gr1
  obtain ⟨g3, gr3⟩ := and_e gr2
  obtain ⟨g4, gr4⟩ := and_e gr3
  obtain ⟨v0, v1, v2, v3, v4, rfl⟩ : ∃ v0 v1 v2 v3 v4 : Value, args = #[v0, v1, v2, v3, v4] := by
    have hs : args.size = 5 := by simpa [Cond.value, given_1] using g0
    obtain ⟨L⟩ := args
    match L, hs with
    | [v0, v1, v2, v3, v4], _ => exact ⟨v0, v1, v2, v3, v4, rfl⟩
  have hw := fun d (hd : d ∈ tables_1) => atoms_spec (ws := Jvm.Cond.code x code maxLocals ret :: tables_1) hat d (List.mem_cons_of_mem _ hd)
  have hfit : Fit s := fun {y c} hc i hi => by
    obtain ⟨ha, rfl⟩ := Array.getElem?_eq_some_iff.mp hc
    have q := List.all_eq_true.mp ((Array.all_eq_true_iff_forall_mem.mp hF) _ (Array.getElem_mem ha)) i (List.mem_range.mpr hi)
    simpa [Array.getElem?_eq_getElem hi] using q
  obtain ⟨i0, ei0⟩ := is_v g1
  obtain rfl : v0 = (.int i0) := Option.some.inj ei0
  obtain ⟨i1, ei1⟩ := isL_v g2
  obtain rfl : v1 = (.long i1) := Option.some.inj ei1
  obtain ⟨i2, ei2⟩ := isL_v g3
  obtain rfl : v2 = (.long i2) := Option.some.inj ei2
  obtain ⟨i3, ei3⟩ := isL_v g4
  obtain rfl : v3 = (.long i3) := Option.some.inj ei3
  obtain ⟨i4, ei4⟩ := is_v gr4
  obtain rfl : v4 = (.int i4) := Option.some.inj ei4
  obtain ⟨hsets, hown0⟩ := atoms_of _ (rest_1_c_eq ▸ (show rest_1_c.before _ s = true from hrest))
  have S_BitSet__assertionsDisabled := Sta.start (own_eqI (Cond.before_iff.mp (hsets _ (List.mem_of_getElem? (i := 2) rfl)))) (Or.inl (hsets _ (List.mem_of_getElem? (i := 1) rfl)))
  obtain ⟨n, o, h1, h2, h3, _, L, rfl, ⟨rfl, N⟩, hq⟩ := rm0 l s _ hw tables_1  s.heap s.heap.size (Old.start s) ⟨S_BitSet__assertionsDisabled, trivial⟩ i0 i1 i2 i3 i4 p e ha hc hk s m _ below hf ((Spec.applies_iff_loose hf).mp happ).1 ⟨rfl, State.Warmed39.refl s, rfl⟩ trivial
  refine ⟨n, _, h1, h2, h3, hpost _ _ _ _ _ _ ⟨Cond.after_iff.mpr rfl, Cond.after_iff.mpr (eq_i res_at (Term.int_eval (1)) rfl), trivial⟩ ⟨hq.1, hq.2.1, (hq.2.2.sift fun y hy => Or.inr (N y hy)).mono (by decide) (by decide)⟩⟩
theorem main_1_1 : Claimed_1_1 := comes_1 fun _ _ _ _ _ _ h hF => ⟨h.1, hF⟩
theorem main_1_2 : Claimed_1_2 := comes_1 fun _ _ _ _ _ _ h hF => ⟨h.2.1, hF⟩
end Jvm.Pilot.@@N@@
namespace Jvm.Pilot.@@N@@
open Jvm Jvm.ClassFile Sem Op Lib Jvm.Free Jvm.Stand Jvm.Pilot.@@N@@.Jvm.D
/-! MADE BY PROGRAM (witnessworld.py) out of the Statement's table words and the real class files: 22 classes; the members and pool entries that the words name. The judged class is class 1, her method 1. -/
namespace start1
open Jvm.ClassFile
def u (s : String) : CpInfo := .utf8 (stringToUtf16 s)
/-- a pool by its gaps: so many unusable entries, then the entry; so many at the end -/
def gap : Nat → List CpInfo → List CpInfo
  | 0, r => r
  | n + 1, r => .unusable :: gap n r
def poolList (es : List (Nat × CpInfo)) (last : Nat) : List CpInfo := es.foldr (fun e r => gap e.1 (e.2 :: r)) (gap last [])
def pool (es : List (Nat × CpInfo)) (last : Nat) : Array CpInfo := ⟨poolList es last⟩
def fileOf (pool : Array CpInfo) (this : Nat) (attrs : Array Attribute := #[]) (ms : Array MethodInfo := #[]) (fl : Nat := 33) (sup : Nat := 0) (ifs : Array Nat := #[]) (fds : Array FieldInfo := #[]) : ClassFile where
  minorVersion := 0
  majorVersion := 65
  constantPool := pool
  accessFlags := fl
  thisClass := this
  superClass := sup
  interfaces := ifs
  fields := fds
  methods := ms
  attributes := attrs
def plain (name : String) (sup : Option ClassId) : Class where
  name := name
  kind := .ordinary
  loader := none
  accessFlags := 33
  super := sup
  interfaces := #[]
  cf := none
  fields := #[]
  methods := #[]
  instanceTypes := #[]
  staticTypes := #[]
  resolved := #[]
  callSites := []
  init := .initialized
  statics := none
  mirror := none

def pool0 : Array CpInfo := pool [(5, u "<init>"), (0, u "()V"), (1, .class_ 10), (1, u "java/lang/Object")] 113

def k0c0 : Code := { maxStack := 0, maxLocals := 1, code := object_method_1_code, exceptionTable := #[], attributes := #[] }
def k0m0 : Method := { name := "<init>", desc := "()V", sig := { parameters := [], returnType := none }, accessFlags := 1, code := some k0c0 }
/-- java/lang/Object -/
def k0 : Class := { plain "java/lang/Object" none with
  accessFlags := 33
  interfaces := #[]
  cf := some (fileOf pool0 8 #[] #[{ accessFlags := 1, nameIndex := 5, descriptorIndex := 6, attributes := #[] }] 33 0 #[] #[])
  fields := #[]
  methods := #[k0m0]
  instanceTypes := #[]
  staticTypes := #[]
  resolved := Array.replicate 124 none
  statics := none }

def pool1 : Array CpInfo := pool [(2, .class_ 4), (1, u "java/lang/Object"), (0, u "<init>"), (0, u "()V"), (0, .long 65535), (3, .long 9223372036854775807), (1, .long 256), (1, .long 8), (1, .long 64), (1, .class_ 20), (0, u "com/example/tributary/tributary/model/NodeHashes"), (0, .methodref 19 22), (0, .nameAndType 5 23), (0, u "(IJ)V"), (0, .methodref 19 25), (0, .nameAndType 26 27), (0, u "bytes"), (0, u "()J"), (0, .methodref 19 29), (0, .nameAndType 30 31), (0, u "put"), (0, u "(J[B)V"), (0, .methodref 19 33), (0, .nameAndType 34 35), (0, u "forget"), (0, u "(JJ)V"), (0, .long 2), (1, .class_ 39), (0, u "com/example/tributary/tributary/model/NodeHashesBytesPinLaw"), (2, u "law"), (0, u "(IJJJI)Z")] 5

def k1m0 : Method := { name := "<init>", desc := "()V", sig := { parameters := [], returnType := none }, accessFlags := 1, code := none }
def k1c1 : Code := { maxStack := 6, maxLocals := 34, code := code, exceptionTable := #[], attributes := #[] }
def k1m1 : Method := { name := "law", desc := "(IJJJI)Z", sig := { parameters := [.int, .long, .long, .long, .int], returnType := some .boolean }, accessFlags := 9, code := some k1c1 }
/-- com/example/tributary/tributary/model/NodeHashesBytesPinLaw -/
def k1 : Class := { plain "com/example/tributary/tributary/model/NodeHashesBytesPinLaw" (some 0) with
  accessFlags := 49
  interfaces := #[]
  cf := some (fileOf pool1 38 #[] #[{ accessFlags := 1, nameIndex := 5, descriptorIndex := 6, attributes := #[] }, { accessFlags := 9, nameIndex := 42, descriptorIndex := 43, attributes := #[] }] 49 2 #[] #[])
  fields := #[]
  methods := #[k1m0, k1m1]
  instanceTypes := #[]
  staticTypes := #[]
  resolved := Array.replicate 49 none
  statics := none }

def pool2 : Array CpInfo := pool [(1, .methodref 2 3), (0, .class_ 4), (0, .nameAndType 5 6), (0, u "java/lang/Object"), (0, u "<init>"), (0, u "()V"), (0, .fieldref 8 9), (0, .class_ 10), (0, .nameAndType 11 12), (0, u "com/example/tributary/tributary/model/NodeHashes"), (0, u "length"), (0, u "I"), (0, .long 256), (1, .methodref 16 17), (0, .class_ 18), (0, .nameAndType 19 20), (0, u "java/lang/Math"), (0, u "min"), (0, u "(JJ)J"), (0, .fieldref 8 22), (0, .nameAndType 23 12), (0, u "pageSlots"), (0, .methodref 16 25), (0, .nameAndType 26 27), (0, u "toIntExact"), (0, u "(J)I"), (0, .class_ 29), (0, u "com/example/tributary/tributary/model/NodeHashes$Page"), (0, .fieldref 8 31), (0, .nameAndType 32 33), (0, u "pages"), (0, u "[Lcom/example/tributary/tributary/model/NodeHashes$Page;"), (0, .methodref 28 35), (0, .nameAndType 5 36), (0, u "(II)V"), (0, .fieldref 8 38), (0, .nameAndType 39 12), (0, u "pagesMade"), (0, .fieldref 28 41), (0, .nameAndType 42 43), (0, u "hashes"), (0, u "[B"), (0, .methodref 45 46), (0, .class_ 47), (0, .nameAndType 48 49), (0, u "java/lang/System"), (0, u "arraycopy"), (0, u "(Ljava/lang/Object;ILjava/lang/Object;II)V"), (0, .fieldref 28 51), (0, .nameAndType 52 53), (0, u "held"), (0, u "Ljava/util/BitSet;"), (0, .methodref 55 56), (0, .class_ 57), (0, .nameAndType 58 59), (0, u "java/util/BitSet"), (0, u "get"), (0, u "(I)Z"), (0, .methodref 55 61), (0, .nameAndType 62 63), (0, u "set"), (0, u "(I)V"), (0, .fieldref 8 65), (0, .nameAndType 52 66), (0, u "J"), (20, .methodref 55 88), (0, .nameAndType 89 90), (0, u "nextSetBit"), (0, u "(I)I"), (0, .methodref 55 92), (0, .nameAndType 93 36), (0, u "clear"), (2, .long 8), (3, .long 64), (1, u "PAGE_SLOTS"), (2, u "REFERENCE_BYTES"), (0, u "PAGE_OVERHEAD"), (0, u "(IJ)V"), (2, u "put"), (0, u "(J[B)V"), (6, u "forget"), (0, u "(JJ)V"), (1, u "()J"), (2, u "bytes")] 5

def k2c0 : Code := { maxStack := 5, maxLocals := 4, code := prog_47_method_1_code, exceptionTable := #[], attributes := #[] }
def k2m0 : Method := { name := "<init>", desc := "(IJ)V", sig := { parameters := [.int, .long], returnType := none }, accessFlags := 0, code := some k2c0 }
def k2c1 : Code := { maxStack := 5, maxLocals := 7, code := prog_47_method_2_code, exceptionTable := #[], attributes := #[] }
def k2m1 : Method := { name := "put", desc := "(J[B)V", sig := { parameters := [.long, (.array .byte)], returnType := none }, accessFlags := 0, code := some k2c1 }
def k2c2 : Code := { maxStack := 8, maxLocals := 11, code := prog_47_method_5_code, exceptionTable := #[], attributes := #[] }
def k2m2 : Method := { name := "forget", desc := "(JJ)V", sig := { parameters := [.long, .long], returnType := none }, accessFlags := 0, code := some k2c2 }
def k2c3 : Code := { maxStack := 8, maxLocals := 1, code := prog_47_method_8_code, exceptionTable := #[], attributes := #[] }
def k2m3 : Method := { name := "bytes", desc := "()J", sig := { parameters := [], returnType := some .long }, accessFlags := 0, code := some k2c3 }
/-- com/example/tributary/tributary/model/NodeHashes -/
def k2 : Class := { plain "com/example/tributary/tributary/model/NodeHashes" (some 0) with
  accessFlags := 48
  interfaces := #[]
  cf := some (fileOf pool2 8 #[.nestMembers #[28]] #[{ accessFlags := 0, nameIndex := 5, descriptorIndex := 107, attributes := #[] }, { accessFlags := 0, nameIndex := 110, descriptorIndex := 111, attributes := #[] }, { accessFlags := 0, nameIndex := 118, descriptorIndex := 119, attributes := #[] }, { accessFlags := 0, nameIndex := 124, descriptorIndex := 121, attributes := #[] }] 48 2 #[] #[{ accessFlags := 26, nameIndex := 102, descriptorIndex := 12, attributes := #[] }, { accessFlags := 26, nameIndex := 105, descriptorIndex := 66, attributes := #[] }, { accessFlags := 26, nameIndex := 106, descriptorIndex := 66, attributes := #[] }, { accessFlags := 18, nameIndex := 11, descriptorIndex := 12, attributes := #[] }, { accessFlags := 18, nameIndex := 23, descriptorIndex := 12, attributes := #[] }, { accessFlags := 18, nameIndex := 32, descriptorIndex := 33, attributes := #[] }, { accessFlags := 2, nameIndex := 52, descriptorIndex := 66, attributes := #[] }, { accessFlags := 2, nameIndex := 39, descriptorIndex := 12, attributes := #[] }])
  fields := #[{ name := "PAGE_SLOTS", type := .int, accessFlags := 26, slot := 0, constantValue := 0 }, { name := "REFERENCE_BYTES", type := .long, accessFlags := 26, slot := 1, constantValue := 0 }, { name := "PAGE_OVERHEAD", type := .long, accessFlags := 26, slot := 2, constantValue := 0 }, { name := "length", type := .int, accessFlags := 18, slot := 0, constantValue := 0 }, { name := "pageSlots", type := .int, accessFlags := 18, slot := 1, constantValue := 0 }, { name := "pages", type := (.array (.object "com/example/tributary/tributary/model/NodeHashes$Page")), accessFlags := 18, slot := 2, constantValue := 0 }, { name := "held", type := .long, accessFlags := 2, slot := 3, constantValue := 0 }, { name := "pagesMade", type := .int, accessFlags := 2, slot := 4, constantValue := 0 }]
  methods := #[k2m0, k2m1, k2m2, k2m3]
  instanceTypes := #[.int, .int, (.array (.object "com/example/tributary/tributary/model/NodeHashes$Page")), .long, .int]
  staticTypes := #[.int, .long, .long]
  resolved := ((((Array.replicate 130 none).setIfInBounds 28 (some (.cls 4))).setIfInBounds 34 (some (.method ⟨4, 0⟩))).setIfInBounds 40 (some (.field 4 0))).setIfInBounds 50 (some (.field 4 1))
  statics := none }

def pool3 : Array CpInfo := pool [(1, .class_ 2), (0, u "java/lang/Math"), (1, .class_ 6), (1, u "java/lang/Object"), (0, u "<init>"), (0, u "()V"), (89, .class_ 100), (1, u "java/lang/Math$RandomNumberGeneratorHolder"), (20, u "(JJ)J"), (50, u "negativeZeroFloatBits"), (0, u "J"), (2, u "negativeZeroDoubleBits"), (24, u "min"), (43, u "$assertionsDisabled"), (0, u "Z"), (91, u "twoToTheDoubleScaleDown"), (0, u "D"), (4, u "twoToTheDoubleScaleUp"), (9, u "E"), (3, u "PI"), (2, u "TAU"), (2, u "DEGREES_TO_RADIANS"), (0, u "RADIANS_TO_DEGREES"), (39, u "toIntExact"), (0, u "(J)I")] 53

def k3m0 : Method := { name := "<init>", desc := "()V", sig := { parameters := [], returnType := none }, accessFlags := 2, code := none }
def k3c1 : Code := { maxStack := 4, maxLocals := 2, code := jdk_29_method_43_code, exceptionTable := #[], attributes := #[] }
def k3m1 : Method := { name := "toIntExact", desc := "(J)I", sig := { parameters := [.long], returnType := some .int }, accessFlags := 9, code := some k3c1 }
def k3c2 : Code := { maxStack := 4, maxLocals := 4, code := jdk_29_method_70_code, exceptionTable := #[], attributes := #[] }
def k3m2 : Method := { name := "min", desc := "(JJ)J", sig := { parameters := [.long, .long], returnType := some .long }, accessFlags := 9, code := some k3c2 }
/-- java/lang/Math -/
def k3 : Class := { plain "java/lang/Math" (some 0) with
  accessFlags := 49
  interfaces := #[]
  cf := some (fileOf pool3 1 #[.nestMembers #[98]] #[{ accessFlags := 2, nameIndex := 7, descriptorIndex := 8, attributes := #[] }, { accessFlags := 9, nameIndex := 405, descriptorIndex := 406, attributes := #[] }, { accessFlags := 9, nameIndex := 201, descriptorIndex := 121, attributes := #[] }] 49 4 #[] #[{ accessFlags := 25, nameIndex := 354, descriptorIndex := 339, attributes := #[] }, { accessFlags := 25, nameIndex := 358, descriptorIndex := 339, attributes := #[] }, { accessFlags := 25, nameIndex := 361, descriptorIndex := 339, attributes := #[] }, { accessFlags := 26, nameIndex := 364, descriptorIndex := 339, attributes := #[] }, { accessFlags := 26, nameIndex := 365, descriptorIndex := 339, attributes := #[] }, { accessFlags := 26, nameIndex := 172, descriptorIndex := 173, attributes := #[] }, { accessFlags := 26, nameIndex := 176, descriptorIndex := 173, attributes := #[] }, { accessFlags := 8, nameIndex := 344, descriptorIndex := 339, attributes := #[] }, { accessFlags := 8, nameIndex := 338, descriptorIndex := 339, attributes := #[] }, { accessFlags := 4120, nameIndex := 245, descriptorIndex := 246, attributes := #[] }])
  fields := #[{ name := "E", type := .double, accessFlags := 25, slot := 0, constantValue := 0 }, { name := "PI", type := .double, accessFlags := 25, slot := 1, constantValue := 0 }, { name := "TAU", type := .double, accessFlags := 25, slot := 2, constantValue := 0 }, { name := "DEGREES_TO_RADIANS", type := .double, accessFlags := 26, slot := 3, constantValue := 0 }, { name := "RADIANS_TO_DEGREES", type := .double, accessFlags := 26, slot := 4, constantValue := 0 }, { name := "negativeZeroFloatBits", type := .long, accessFlags := 26, slot := 5, constantValue := 0 }, { name := "negativeZeroDoubleBits", type := .long, accessFlags := 26, slot := 6, constantValue := 0 }, { name := "twoToTheDoubleScaleUp", type := .double, accessFlags := 8, slot := 7, constantValue := 0 }, { name := "twoToTheDoubleScaleDown", type := .double, accessFlags := 8, slot := 8, constantValue := 0 }, { name := "$assertionsDisabled", type := .boolean, accessFlags := 4120, slot := 9, constantValue := 0 }]
  methods := #[k3m0, k3m1, k3m2]
  instanceTypes := #[]
  staticTypes := #[.double, .double, .double, .double, .double, .long, .long, .double, .double, .boolean]
  resolved := Array.replicate 460 none
  statics := none }

def pool4 : Array CpInfo := pool [(1, .methodref 2 3), (0, .class_ 4), (0, .nameAndType 5 6), (0, u "java/lang/Object"), (0, u "<init>"), (0, u "()V"), (0, .fieldref 8 9), (0, .class_ 10), (0, .nameAndType 11 12), (0, u "com/example/tributary/tributary/model/NodeHashes$Page"), (0, u "hashes"), (0, u "[B"), (0, .class_ 14), (0, u "java/util/BitSet"), (0, .methodref 13 16), (0, .nameAndType 5 17), (0, u "(I)V"), (0, .fieldref 8 19), (0, .nameAndType 20 21), (0, u "held"), (0, u "Ljava/util/BitSet;"), (0, u "(II)V"), (5, .class_ 29), (0, u "com/example/tributary/tributary/model/NodeHashes")] 2

def k4c0 : Code := { maxStack := 4, maxLocals := 3, code := prog_48_method_1_code, exceptionTable := #[], attributes := #[] }
def k4m0 : Method := { name := "<init>", desc := "(II)V", sig := { parameters := [.int, .int], returnType := none }, accessFlags := 2, code := some k4c0 }
/-- com/example/tributary/tributary/model/NodeHashes$Page -/
def k4 : Class := { plain "com/example/tributary/tributary/model/NodeHashes$Page" (some 0) with
  accessFlags := 48
  interfaces := #[]
  cf := some (fileOf pool4 8 #[.nestHost 28] #[{ accessFlags := 2, nameIndex := 5, descriptorIndex := 22, attributes := #[] }] 48 2 #[] #[{ accessFlags := 18, nameIndex := 11, descriptorIndex := 12, attributes := #[] }, { accessFlags := 18, nameIndex := 20, descriptorIndex := 21, attributes := #[] }])
  fields := #[{ name := "hashes", type := (.array .byte), accessFlags := 18, slot := 0, constantValue := 0 }, { name := "held", type := (.object "java/util/BitSet"), accessFlags := 18, slot := 1, constantValue := 0 }]
  methods := #[k4m0]
  instanceTypes := #[(.array .byte), (.object "java/util/BitSet")]
  staticTypes := #[]
  resolved := Array.replicate 32 none
  statics := none }

def pool5 : Array CpInfo := pool [(1, .class_ 2), (0, u "java/lang/Cloneable"), (0, .class_ 4), (0, u "java/lang/Object")] 2

/-- java/lang/Cloneable -/
def k5 : Class := { plain "java/lang/Cloneable" (some 0) with
  accessFlags := 1537
  interfaces := #[]
  cf := some (fileOf pool5 1 #[] #[] 1537 3 #[] #[])
  fields := #[]
  methods := #[]
  instanceTypes := #[]
  staticTypes := #[]
  resolved := Array.replicate 7 none
  statics := none }

def pool6 : Array CpInfo := pool [(1, .class_ 2), (0, u "java/io/Serializable"), (0, .class_ 4), (0, u "java/lang/Object")] 2

/-- java/io/Serializable -/
def k6 : Class := { plain "java/io/Serializable" (some 0) with
  accessFlags := 1537
  interfaces := #[]
  cf := some (fileOf pool6 1 #[] #[] 1537 3 #[] #[])
  fields := #[]
  methods := #[]
  instanceTypes := #[]
  staticTypes := #[]
  resolved := Array.replicate 7 none
  statics := none }

def pool7 : Array CpInfo := pool [(1, .class_ 2), (0, u "java/util/BitSet"), (0, .fieldref 1 4), (0, .nameAndType 5 6), (0, u "$assertionsDisabled"), (0, u "Z"), (0, .fieldref 1 8), (0, .nameAndType 9 10), (0, u "wordsInUse"), (0, u "I"), (0, .fieldref 1 12), (0, .nameAndType 13 14), (0, u "words"), (0, u "[J"), (3, .nameAndType 19 20), (0, u "<init>"), (0, u "()V"), (0, .methodref 22 18), (0, .class_ 23), (0, u "java/lang/Object"), (0, .fieldref 1 25), (0, .nameAndType 26 6), (0, u "sizeIsSticky"), (0, .methodref 1 28), (0, .nameAndType 29 30), (0, u "initWords"), (0, u "(I)V"), (21, .methodref 1 53), (0, .nameAndType 54 55), (0, u "wordIndex"), (0, u "(I)I"), (0, .methodref 1 57), (0, .nameAndType 58 20), (0, u "checkInvariants"), (18, u "()I"), (2, u "get"), (58, .methodref 1 140), (0, .nameAndType 141 30), (0, u "ensureCapacity"), (13, .methodref 1 156), (0, .nameAndType 157 30), (0, u "expandTo"), (0, .methodref 1 159), (0, .nameAndType 160 20), (0, u "recalculateWordsInUse"), (0, .methodref 1 162), (0, .nameAndType 163 164), (0, u "checkRange"), (0, u "(II)V"), (0, .long 18446744073709551615), (3, u "set"), (2, u "clear"), (4, .methodref 1 178), (0, .nameAndType 179 77), (0, u "length"), (2, .methodref 183 184), (0, .class_ 185), (0, .nameAndType 186 187), (0, u "java/lang/Long"), (0, u "numberOfTrailingZeros"), (0, u "(J)I"), (2, .methodref 183 191), (0, .nameAndType 192 187), (0, u "numberOfLeadingZeros"), (70, u "nextSetBit"), (5, .class_ 270), (0, u "java/util/BitSet$1BitSetSpliterator"), (22, u "serialPersistentFields"), (0, u "[Ljava/io/ObjectStreamField;"), (0, .class_ 296), (0, u "java/lang/Cloneable"), (0, .class_ 298), (0, u "java/io/Serializable"), (0, u "ADDRESS_BITS_PER_WORD"), (2, u "BITS_PER_WORD"), (1, u "BIT_INDEX_MASK"), (1, u "WORD_MASK"), (0, u "J"), (0, u "serialVersionUID"), (42, u "(I)Z")] 65

def k7c0 : Code := { maxStack := 2, maxLocals := 1, code := jdk_92_method_1_code, exceptionTable := #[], attributes := #[] }
def k7m0 : Method := { name := "wordIndex", desc := "(I)I", sig := { parameters := [.int], returnType := some .int }, accessFlags := 10, code := some k7c0 }
def k7c1 : Code := { maxStack := 4, maxLocals := 1, code := jdk_92_method_2_code, exceptionTable := #[], attributes := #[] }
def k7m1 : Method := { name := "checkInvariants", desc := "()V", sig := { parameters := [], returnType := none }, accessFlags := 2, code := some k7c1 }
def k7c2 : Code := { maxStack := 4, maxLocals := 2, code := jdk_92_method_3_code, exceptionTable := #[], attributes := #[] }
def k7m2 : Method := { name := "recalculateWordsInUse", desc := "()V", sig := { parameters := [], returnType := none }, accessFlags := 2, code := some k7c2 }
def k7m3 : Method := { name := "<init>", desc := "()V", sig := { parameters := [], returnType := none }, accessFlags := 1, code := none }
def k7c4 : Code := { maxStack := 4, maxLocals := 2, code := jdk_92_method_5_code, exceptionTable := #[], attributes := #[] }
def k7m4 : Method := { name := "<init>", desc := "(I)V", sig := { parameters := [.int], returnType := none }, accessFlags := 1, code := some k7c4 }
def k7c5 : Code := { maxStack := 3, maxLocals := 2, code := jdk_92_method_6_code, exceptionTable := #[], attributes := #[] }
def k7m5 : Method := { name := "initWords", desc := "(I)V", sig := { parameters := [.int], returnType := none }, accessFlags := 2, code := some k7c5 }
def k7c6 : Code := { maxStack := 3, maxLocals := 3, code := jdk_92_method_14_code, exceptionTable := #[], attributes := #[] }
def k7m6 : Method := { name := "ensureCapacity", desc := "(I)V", sig := { parameters := [.int], returnType := none }, accessFlags := 2, code := some k7c6 }
def k7c7 : Code := { maxStack := 2, maxLocals := 3, code := jdk_92_method_15_code, exceptionTable := #[], attributes := #[] }
def k7m7 : Method := { name := "expandTo", desc := "(I)V", sig := { parameters := [.int], returnType := none }, accessFlags := 2, code := some k7c7 }
def k7c8 : Code := { maxStack := 4, maxLocals := 2, code := jdk_92_method_16_code, exceptionTable := #[], attributes := #[] }
def k7m8 : Method := { name := "checkRange", desc := "(II)V", sig := { parameters := [.int, .int], returnType := none }, accessFlags := 10, code := some k7c8 }
def k7c9 : Code := { maxStack := 7, maxLocals := 3, code := jdk_92_method_19_code, exceptionTable := #[], attributes := #[] }
def k7m9 : Method := { name := "set", desc := "(I)V", sig := { parameters := [.int], returnType := none }, accessFlags := 1, code := some k7c9 }
def k7c10 : Code := { maxStack := 8, maxLocals := 10, code := jdk_92_method_24_code, exceptionTable := #[], attributes := #[] }
def k7m10 : Method := { name := "clear", desc := "(II)V", sig := { parameters := [.int, .int], returnType := none }, accessFlags := 1, code := some k7c10 }
def k7c11 : Code := { maxStack := 5, maxLocals := 3, code := jdk_92_method_26_code, exceptionTable := #[], attributes := #[] }
def k7m11 : Method := { name := "get", desc := "(I)Z", sig := { parameters := [.int], returnType := some .boolean }, accessFlags := 1, code := some k7c11 }
def k7c12 : Code := { maxStack := 5, maxLocals := 5, code := jdk_92_method_28_code, exceptionTable := #[], attributes := #[] }
def k7m12 : Method := { name := "nextSetBit", desc := "(I)I", sig := { parameters := [.int], returnType := some .int }, accessFlags := 1, code := some k7c12 }
def k7c13 : Code := { maxStack := 5, maxLocals := 1, code := jdk_92_method_32_code, exceptionTable := #[], attributes := #[] }
def k7m13 : Method := { name := "length", desc := "()I", sig := { parameters := [], returnType := some .int }, accessFlags := 1, code := some k7c13 }
/-- java/util/BitSet -/
def k7 : Class := { plain "java/util/BitSet" (some 0) with
  accessFlags := 33
  interfaces := #[5, 6]
  cf := some (fileOf pool7 1 #[.nestMembers #[269]] #[{ accessFlags := 10, nameIndex := 54, descriptorIndex := 55, attributes := #[] }, { accessFlags := 2, nameIndex := 58, descriptorIndex := 20, attributes := #[] }, { accessFlags := 2, nameIndex := 160, descriptorIndex := 20, attributes := #[] }, { accessFlags := 1, nameIndex := 19, descriptorIndex := 20, attributes := #[] }, { accessFlags := 1, nameIndex := 19, descriptorIndex := 30, attributes := #[] }, { accessFlags := 2, nameIndex := 29, descriptorIndex := 30, attributes := #[] }, { accessFlags := 2, nameIndex := 141, descriptorIndex := 30, attributes := #[] }, { accessFlags := 2, nameIndex := 157, descriptorIndex := 30, attributes := #[] }, { accessFlags := 10, nameIndex := 163, descriptorIndex := 164, attributes := #[] }, { accessFlags := 1, nameIndex := 169, descriptorIndex := 30, attributes := #[] }, { accessFlags := 1, nameIndex := 172, descriptorIndex := 164, attributes := #[] }, { accessFlags := 1, nameIndex := 80, descriptorIndex := 351, attributes := #[] }, { accessFlags := 1, nameIndex := 263, descriptorIndex := 55, attributes := #[] }, { accessFlags := 1, nameIndex := 179, descriptorIndex := 77, attributes := #[] }] 33 22 #[295, 297] #[{ accessFlags := 26, nameIndex := 299, descriptorIndex := 10, attributes := #[] }, { accessFlags := 26, nameIndex := 302, descriptorIndex := 10, attributes := #[] }, { accessFlags := 26, nameIndex := 304, descriptorIndex := 10, attributes := #[] }, { accessFlags := 26, nameIndex := 306, descriptorIndex := 307, attributes := #[] }, { accessFlags := 26, nameIndex := 293, descriptorIndex := 294, attributes := #[] }, { accessFlags := 2, nameIndex := 13, descriptorIndex := 14, attributes := #[] }, { accessFlags := 130, nameIndex := 9, descriptorIndex := 10, attributes := #[] }, { accessFlags := 130, nameIndex := 26, descriptorIndex := 6, attributes := #[] }, { accessFlags := 26, nameIndex := 308, descriptorIndex := 307, attributes := #[] }, { accessFlags := 4120, nameIndex := 5, descriptorIndex := 6, attributes := #[] }])
  fields := #[{ name := "ADDRESS_BITS_PER_WORD", type := .int, accessFlags := 26, slot := 0, constantValue := 0 }, { name := "BITS_PER_WORD", type := .int, accessFlags := 26, slot := 1, constantValue := 0 }, { name := "BIT_INDEX_MASK", type := .int, accessFlags := 26, slot := 2, constantValue := 0 }, { name := "WORD_MASK", type := .long, accessFlags := 26, slot := 3, constantValue := 0 }, { name := "serialPersistentFields", type := (.array (.object "java/io/ObjectStreamField")), accessFlags := 26, slot := 4, constantValue := 0 }, { name := "words", type := (.array .long), accessFlags := 2, slot := 0, constantValue := 0 }, { name := "wordsInUse", type := .int, accessFlags := 130, slot := 1, constantValue := 0 }, { name := "sizeIsSticky", type := .boolean, accessFlags := 130, slot := 2, constantValue := 0 }, { name := "serialVersionUID", type := .long, accessFlags := 26, slot := 5, constantValue := 0 }, { name := "$assertionsDisabled", type := .boolean, accessFlags := 4120, slot := 6, constantValue := 0 }]
  methods := #[k7m0, k7m1, k7m2, k7m3, k7m4, k7m5, k7m6, k7m7, k7m8, k7m9, k7m10, k7m11, k7m12, k7m13]
  instanceTypes := #[(.array .long), .int, .boolean]
  staticTypes := #[.int, .int, .int, .long, (.array (.object "java/io/ObjectStreamField")), .long, .boolean]
  resolved := Array.replicate 417 none
  statics := some 0 }

def pool8 : Array CpInfo := pool [(2, .class_ 4), (1, u "java/lang/Object"), (0, u "<init>"), (0, u "()V"), (1, .class_ 10), (1, u "java/lang/System"), (0, u "allowSecurityManager"), (0, u "I"), (16, u "cons"), (0, u "Ljava/io/Console;"), (77, .class_ 110), (1, u "java/lang/System$CallersHolder"), (43, u "initialErrStream"), (0, u "Ljava/io/PrintStream;"), (19, u "security"), (0, u "Ljava/lang/SecurityManager;"), (31, .class_ 209), (0, u "java/lang/System$1"), (7, u "props"), (0, u "Ljava/util/Properties;"), (2, u "lineSeparator"), (0, u "Ljava/lang/String;"), (96, .class_ 321), (1, u "java/lang/System$LoggerFinder"), (5, .class_ 328), (0, u "java/lang/System$Logger"), (67, u "err"), (2, u "out"), (91, u "notSupportedJnuEncoding"), (15, u "in"), (17, u "initialIn"), (0, u "Ljava/io/InputStream;"), (35, u "bootLayer"), (0, u "Ljava/lang/ModuleLayer;"), (99, .class_ 664), (0, u "java/lang/System$2"), (9, u "NEVER"), (2, u "MAYBE"), (49, u "arraycopy"), (0, u "(Ljava/lang/Object;ILjava/lang/Object;II)V"), (72, .class_ 802), (0, u "java/lang/System$Logger$Level")] 31

def k8m0 : Method := { name := "<init>", desc := "()V", sig := { parameters := [], returnType := none }, accessFlags := 2, code := none }
def k8m1 : Method := { name := "arraycopy", desc := "(Ljava/lang/Object;ILjava/lang/Object;II)V", sig := { parameters := [(.object "java/lang/Object"), .int, (.object "java/lang/Object"), .int, .int], returnType := none }, accessFlags := 265, code := none }
/-- java/lang/System -/
def k8 : Class := { plain "java/lang/System" (some 0) with
  accessFlags := 49
  interfaces := #[]
  cf := some (fileOf pool8 8 #[.nestMembers #[319, 327, 801, 108, 663, 208]] #[{ accessFlags := 2, nameIndex := 5, descriptorIndex := 6, attributes := #[] }, { accessFlags := 265, nameIndex := 727, descriptorIndex := 728, attributes := #[] }] 49 2 #[] #[{ accessFlags := 25, nameIndex := 507, descriptorIndex := 526, attributes := #[] }, { accessFlags := 25, nameIndex := 399, descriptorIndex := 155, attributes := #[] }, { accessFlags := 25, nameIndex := 396, descriptorIndex := 155, attributes := #[] }, { accessFlags := 10, nameIndex := 525, descriptorIndex := 526, attributes := #[] }, { accessFlags := 26, nameIndex := 674, descriptorIndex := 12, attributes := #[] }, { accessFlags := 26, nameIndex := 677, descriptorIndex := 12, attributes := #[] }, { accessFlags := 10, nameIndex := 11, descriptorIndex := 12, attributes := #[] }, { accessFlags := 74, nameIndex := 175, descriptorIndex := 176, attributes := #[] }, { accessFlags := 10, nameIndex := 491, descriptorIndex := 222, attributes := #[] }, { accessFlags := 74, nameIndex := 29, descriptorIndex := 30, attributes := #[] }, { accessFlags := 74, nameIndex := 154, descriptorIndex := 155, attributes := #[] }, { accessFlags := 10, nameIndex := 217, descriptorIndex := 218, attributes := #[] }, { accessFlags := 10, nameIndex := 221, descriptorIndex := 222, attributes := #[] }, { accessFlags := 8, nameIndex := 562, descriptorIndex := 563, attributes := #[] }])
  fields := #[{ name := "in", type := (.object "java/io/InputStream"), accessFlags := 25, slot := 0, constantValue := 0 }, { name := "out", type := (.object "java/io/PrintStream"), accessFlags := 25, slot := 1, constantValue := 0 }, { name := "err", type := (.object "java/io/PrintStream"), accessFlags := 25, slot := 2, constantValue := 0 }, { name := "initialIn", type := (.object "java/io/InputStream"), accessFlags := 10, slot := 3, constantValue := 0 }, { name := "NEVER", type := .int, accessFlags := 26, slot := 4, constantValue := 0 }, { name := "MAYBE", type := .int, accessFlags := 26, slot := 5, constantValue := 0 }, { name := "allowSecurityManager", type := .int, accessFlags := 10, slot := 6, constantValue := 0 }, { name := "security", type := (.object "java/lang/SecurityManager"), accessFlags := 74, slot := 7, constantValue := 0 }, { name := "notSupportedJnuEncoding", type := (.object "java/lang/String"), accessFlags := 10, slot := 8, constantValue := 0 }, { name := "cons", type := (.object "java/io/Console"), accessFlags := 74, slot := 9, constantValue := 0 }, { name := "initialErrStream", type := (.object "java/io/PrintStream"), accessFlags := 74, slot := 10, constantValue := 0 }, { name := "props", type := (.object "java/util/Properties"), accessFlags := 10, slot := 11, constantValue := 0 }, { name := "lineSeparator", type := (.object "java/lang/String"), accessFlags := 10, slot := 12, constantValue := 0 }, { name := "bootLayer", type := (.object "java/lang/ModuleLayer"), accessFlags := 8, slot := 13, constantValue := 0 }]
  methods := #[k8m0, k8m1]
  instanceTypes := #[]
  staticTypes := #[(.object "java/io/InputStream"), (.object "java/io/PrintStream"), (.object "java/io/PrintStream"), (.object "java/io/InputStream"), .int, .int, .int, (.object "java/lang/SecurityManager"), (.object "java/lang/String"), (.object "java/io/Console"), (.object "java/io/PrintStream"), (.object "java/util/Properties"), (.object "java/lang/String"), (.object "java/lang/ModuleLayer")]
  resolved := Array.replicate 834 none
  statics := none }

def pool9 : Array CpInfo := pool [(2, .class_ 4), (1, u "java/lang/Object"), (0, u "<init>"), (0, u "()V"), (1, .class_ 10), (1, u "java/lang/Number"), (2, .class_ 14), (0, u "java/io/Serializable"), (0, u "serialVersionUID"), (0, u "J")] 20

def k9m0 : Method := { name := "<init>", desc := "()V", sig := { parameters := [], returnType := none }, accessFlags := 1, code := none }
/-- java/lang/Number -/
def k9 : Class := { plain "java/lang/Number" (some 0) with
  accessFlags := 1057
  interfaces := #[6]
  cf := some (fileOf pool9 8 #[] #[{ accessFlags := 1, nameIndex := 5, descriptorIndex := 6, attributes := #[] }] 1057 2 #[13] #[{ accessFlags := 26, nameIndex := 15, descriptorIndex := 16, attributes := #[] }])
  fields := #[{ name := "serialVersionUID", type := .long, accessFlags := 26, slot := 0, constantValue := 0 }]
  methods := #[k9m0]
  instanceTypes := #[]
  staticTypes := #[.long]
  resolved := Array.replicate 37 none
  statics := none }

def pool10 : Array CpInfo := pool [(1, .class_ 2), (0, u "java/lang/Comparable"), (0, .class_ 4), (0, u "java/lang/Object")] 7

/-- java/lang/Comparable -/
def k10 : Class := { plain "java/lang/Comparable" (some 0) with
  accessFlags := 1537
  interfaces := #[]
  cf := some (fileOf pool10 1 #[] #[] 1537 3 #[] #[])
  fields := #[]
  methods := #[]
  instanceTypes := #[]
  staticTypes := #[]
  resolved := Array.replicate 12 none
  statics := none }

def pool11 : Array CpInfo := pool [(1, .class_ 2), (0, u "java/lang/constant/Constable"), (0, .class_ 4), (0, u "java/lang/Object")] 6

/-- java/lang/constant/Constable -/
def k11 : Class := { plain "java/lang/constant/Constable" (some 0) with
  accessFlags := 1537
  interfaces := #[]
  cf := some (fileOf pool11 1 #[] #[] 1537 3 #[] #[])
  fields := #[]
  methods := #[]
  instanceTypes := #[]
  staticTypes := #[]
  resolved := Array.replicate 11 none
  statics := none }

def pool12 : Array CpInfo := pool [(1, .class_ 2), (0, u "java/lang/constant/ConstantDesc"), (0, .class_ 4), (0, u "java/lang/Object")] 32

/-- java/lang/constant/ConstantDesc -/
def k12 : Class := { plain "java/lang/constant/ConstantDesc" (some 0) with
  accessFlags := 1537
  interfaces := #[]
  cf := some (fileOf pool12 1 #[] #[] 1537 3 #[] #[])
  fields := #[]
  methods := #[]
  instanceTypes := #[]
  staticTypes := #[]
  resolved := Array.replicate 37 none
  statics := none }

def pool13 : Array CpInfo := pool [(1, .class_ 2), (0, u "java/lang/Long"), (15, .class_ 20), (1, u "java/lang/Integer"), (79, u "numberOfLeadingZeros"), (0, u "(J)I"), (133, .class_ 237), (1, u "java/lang/Long$LongCache"), (33, .class_ 272), (0, u "java/lang/Number"), (2, u "value"), (0, u "J"), (31, .methodref 18 309), (0, .nameAndType 100 310), (0, u "(I)I"), (0, .methodref 18 312), (0, .nameAndType 313 310), (0, u "numberOfTrailingZeros"), (47, u "TYPE"), (0, u "Ljava/lang/Class;"), (0, .class_ 364), (0, u "java/lang/Comparable"), (0, .class_ 366), (0, u "java/lang/constant/Constable"), (0, .class_ 368), (0, u "java/lang/constant/ConstantDesc"), (0, u "MIN_VALUE"), (1, u "MAX_VALUE"), (4, u "SIZE"), (0, u "I"), (1, u "BYTES"), (1, u "serialVersionUID")] 142

def k13c0 : Code := { maxStack := 3, maxLocals := 3, code := jdk_35_method_48_code, exceptionTable := #[], attributes := #[] }
def k13m0 : Method := { name := "numberOfLeadingZeros", desc := "(J)I", sig := { parameters := [.long], returnType := some .int }, accessFlags := 9, code := some k13c0 }
def k13c1 : Code := { maxStack := 4, maxLocals := 3, code := jdk_35_method_49_code, exceptionTable := #[], attributes := #[] }
def k13m1 : Method := { name := "numberOfTrailingZeros", desc := "(J)I", sig := { parameters := [.long], returnType := some .int }, accessFlags := 9, code := some k13c1 }
/-- java/lang/Long -/
def k13 : Class := { plain "java/lang/Long" (some 9) with
  accessFlags := 49
  interfaces := #[10, 11, 12]
  cf := some (fileOf pool13 1 #[.nestMembers #[235]] #[{ accessFlags := 9, nameIndex := 100, descriptorIndex := 101, attributes := #[] }, { accessFlags := 9, nameIndex := 313, descriptorIndex := 101, attributes := #[] }] 49 271 #[363, 365, 367] #[{ accessFlags := 25, nameIndex := 369, descriptorIndex := 276, attributes := #[] }, { accessFlags := 25, nameIndex := 371, descriptorIndex := 276, attributes := #[] }, { accessFlags := 25, nameIndex := 361, descriptorIndex := 362, attributes := #[] }, { accessFlags := 18, nameIndex := 275, descriptorIndex := 276, attributes := #[] }, { accessFlags := 25, nameIndex := 376, descriptorIndex := 377, attributes := #[] }, { accessFlags := 25, nameIndex := 379, descriptorIndex := 377, attributes := #[] }, { accessFlags := 26, nameIndex := 381, descriptorIndex := 276, attributes := #[] }])
  fields := #[{ name := "MIN_VALUE", type := .long, accessFlags := 25, slot := 0, constantValue := 0 }, { name := "MAX_VALUE", type := .long, accessFlags := 25, slot := 1, constantValue := 0 }, { name := "TYPE", type := (.object "java/lang/Class"), accessFlags := 25, slot := 2, constantValue := 0 }, { name := "value", type := .long, accessFlags := 18, slot := 0, constantValue := 0 }, { name := "SIZE", type := .int, accessFlags := 25, slot := 3, constantValue := 0 }, { name := "BYTES", type := .int, accessFlags := 25, slot := 4, constantValue := 0 }, { name := "serialVersionUID", type := .long, accessFlags := 26, slot := 5, constantValue := 0 }]
  methods := #[k13m0, k13m1]
  instanceTypes := #[.long]
  staticTypes := #[.long, .long, (.object "java/lang/Class"), .int, .int, .long]
  resolved := Array.replicate 524 none
  statics := none }

def pool14 : Array CpInfo := pool [(1, .class_ 2), (0, u "java/lang/Integer"), (16, u "digits"), (0, u "[C"), (32, u "numberOfLeadingZeros"), (0, u "(I)I"), (30, u "DigitOnes"), (0, u "[B"), (2, u "DigitTens"), (99, .class_ 190), (0, u "java/lang/Integer$IntegerCache"), (3, u "I"), (8, .class_ 204), (0, u "java/lang/Number"), (2, u "value"), (56, .integer 65536), (37, u "TYPE"), (0, u "Ljava/lang/Class;"), (0, .class_ 305), (0, u "java/lang/Comparable"), (0, .class_ 307), (0, u "java/lang/constant/Constable"), (0, .class_ 309), (0, u "java/lang/constant/ConstantDesc"), (0, u "MIN_VALUE"), (1, u "MAX_VALUE"), (3, u "SIZE"), (1, u "BYTES"), (1, u "serialVersionUID"), (0, u "J"), (84, u "numberOfTrailingZeros")] 46

def k14c0 : Code := { maxStack := 3, maxLocals := 2, code := jdk_33_method_47_code, exceptionTable := #[], attributes := #[] }
def k14m0 : Method := { name := "numberOfLeadingZeros", desc := "(I)I", sig := { parameters := [.int], returnType := some .int }, accessFlags := 9, code := some k14c0 }
def k14c1 : Code := { maxStack := 3, maxLocals := 2, code := jdk_33_method_48_code, exceptionTable := #[], attributes := #[] }
def k14m1 : Method := { name := "numberOfTrailingZeros", desc := "(I)I", sig := { parameters := [.int], returnType := some .int }, accessFlags := 9, code := some k14c1 }
/-- java/lang/Integer -/
def k14 : Class := { plain "java/lang/Integer" (some 9) with
  accessFlags := 49
  interfaces := #[10, 11, 12]
  cf := some (fileOf pool14 1 #[.nestMembers #[189]] #[{ accessFlags := 9, nameIndex := 53, descriptorIndex := 54, attributes := #[] }, { accessFlags := 9, nameIndex := 406, descriptorIndex := 54, attributes := #[] }] 49 203 #[304, 306, 308] #[{ accessFlags := 25, nameIndex := 310, descriptorIndex := 194, attributes := #[] }, { accessFlags := 25, nameIndex := 312, descriptorIndex := 194, attributes := #[] }, { accessFlags := 25, nameIndex := 302, descriptorIndex := 303, attributes := #[] }, { accessFlags := 24, nameIndex := 19, descriptorIndex := 20, attributes := #[] }, { accessFlags := 24, nameIndex := 89, descriptorIndex := 86, attributes := #[] }, { accessFlags := 24, nameIndex := 85, descriptorIndex := 86, attributes := #[] }, { accessFlags := 18, nameIndex := 207, descriptorIndex := 194, attributes := #[] }, { accessFlags := 25, nameIndex := 316, descriptorIndex := 194, attributes := #[] }, { accessFlags := 25, nameIndex := 318, descriptorIndex := 194, attributes := #[] }, { accessFlags := 26, nameIndex := 320, descriptorIndex := 321, attributes := #[] }])
  fields := #[{ name := "MIN_VALUE", type := .int, accessFlags := 25, slot := 0, constantValue := 0 }, { name := "MAX_VALUE", type := .int, accessFlags := 25, slot := 1, constantValue := 0 }, { name := "TYPE", type := (.object "java/lang/Class"), accessFlags := 25, slot := 2, constantValue := 0 }, { name := "digits", type := (.array .char), accessFlags := 24, slot := 3, constantValue := 0 }, { name := "DigitTens", type := (.array .byte), accessFlags := 24, slot := 4, constantValue := 0 }, { name := "DigitOnes", type := (.array .byte), accessFlags := 24, slot := 5, constantValue := 0 }, { name := "value", type := .int, accessFlags := 18, slot := 0, constantValue := 0 }, { name := "SIZE", type := .int, accessFlags := 25, slot := 6, constantValue := 0 }, { name := "BYTES", type := .int, accessFlags := 25, slot := 7, constantValue := 0 }, { name := "serialVersionUID", type := .long, accessFlags := 26, slot := 8, constantValue := 0 }]
  methods := #[k14m0, k14m1]
  instanceTypes := #[.int]
  staticTypes := #[.int, .int, (.object "java/lang/Class"), (.array .char), (.array .byte), (.array .byte), .int, .int, .long]
  resolved := Array.replicate 453 none
  statics := none }

/-- the primitive byte -/
def k15 : Class := { plain "byte" none with kind := .primitive 'B', accessFlags := 0x411 }
/-- [B -/
def k16 : Class := { plain "[B" (some 0) with kind := .array 15 .byte, interfaces := #[5, 6], accessFlags := 1041 }

/-- the primitive int -/
def k17 : Class := { plain "int" none with kind := .primitive 'I', accessFlags := 0x411 }
/-- [I -/
def k18 : Class := { plain "[I" (some 0) with kind := .array 17 .int, interfaces := #[5, 6], accessFlags := 1041 }

/-- the primitive long -/
def k19 : Class := { plain "long" none with kind := .primitive 'J', accessFlags := 0x411 }
/-- [J -/
def k20 : Class := { plain "[J" (some 0) with kind := .array 19 .long, interfaces := #[5, 6], accessFlags := 1041 }

/-- [Lcom/example/tributary/tributary/model/NodeHashes$Page; -/
def k21 : Class := { plain "[Lcom/example/tributary/tributary/model/NodeHashes$Page;" (some 0) with kind := .array 4 (.object "com/example/tributary/tributary/model/NodeHashes$Page"), interfaces := #[5, 6], accessFlags := 1041 }

def heap : Heap := #[{ cls := 7, slots := #[.int 0, .int 0, .int 0, .long 0, .null, .long 0, .int 1], vm := .statics 7 }]
def classes : Array Class := #[k0, k1, k2, k3, k4, k5, k6, k7, k8, k9, k10, k11, k12, k13, k14, k15, k16, k17, k18, k19, k20, k21]
def interned : List (Array UInt16 × Addr) := []
def slotsUsed : Nat := 7
def theMethod : MethodId := ⟨1, 1⟩
def args0 : Array Value := #[.int 5, .long 5, .long 5, .long 5, .int 5]
def aboutOver (below : List Frame) : State where
  vm := { classes := classes, interned := interned.toArray }
  heap := heap
  slotsUsed := slotsUsed
  threads := #[{ frames := .invoking theMethod args0 :: below }]
def below0 : List Frame := [.native { method := ⟨0, 0⟩, args := #[] }]
def about1 : State := aboutOver below0
def p0 : Program := .bare "" "" ""
def e0 : Env := launch0.env 0 0 0
theorem w_frames : about1.frames = Frame.invoking theMethod args0 :: below0 := rfl
set_option maxRecDepth 65536 in
theorem w_args : argsFit about1.vm theMethod args0 = true := by decide +kernel
set_option maxRecDepth 65536 in
theorem w_heap : heapFits about1 = true := by decide +kernel
set_option maxRecDepth 65536 in
theorem w_runnable : about1.curStatus? = some .runnable := by decide +kernel
set_option maxRecDepth 65536 in
theorem w_alone : about1.alone = true := by decide +kernel
set_option maxRecDepth 65536 in
theorem w_named : about1.methodNamed? x = some theMethod := by decide +kernel
set_option maxRecDepth 65536 in
theorem w_hears : about1.hears theMethod below0 = true := by decide +kernel
set_option maxRecDepth 65536 in
theorem w_ripe : about1.ripe theMethod args0 below0 = true := by decide +kernel
theorem w_running : about1.status = .running := rfl
set_option maxRecDepth 65536 in
theorem w_room : about1.hasRoom e0.platform room_1 = true :=
  launch0.hasRoom_least _ room_1 (by decide +kernel) (by decide +kernel) (by decide +kernel) (by decide +kernel) (by decide +kernel) (by decide +kernel)
theorem allAtoms_all (ts : List Jvm.Cond) (a : Array Jvm.Value) (st : Jvm.State) : (allAtoms ts).before a st = ts.all (fun c => c.before a st) := by
  induction ts with
  | nil => rfl
  | cons c t ih =>
    show (Jvm.Cond.and c (allAtoms t)).before a st = _
    rw [Jvm.Cond.before_and, ih, List.all_cons]
def words1 : List Jvm.Cond := Jvm.Cond.code x code maxLocals ret :: tables_1
/-- a 'code' word, met by the world's own term for the bytes: nothing is compared byte by byte -/
theorem code_word {y : MethodName} {bytes : ByteArray} {mx : Nat} {rt : Option FieldType} {a : Array Value} {s : State} {m : MethodId} {meth : Method} {c : Code} (h1 : s.methodNamed? y = some m) (h2 : s.vm.method? m = some meth) (h3 : meth.code = some c) (h4 : c.code = bytes)
    (h5 : (c.maxLocals == mx && c.exceptionTable.isEmpty && decide (c.maxStack ≤ mostOperands) && decide (meth.sig.returnType = rt) && !meth.locks && decide (parseMethodDescriptor y.desc = some meth.sig)) = true) : (Jvm.Cond.code y bytes mx rt).before a s = true := by
  simp only [Bool.and_eq_true, beq_iff_eq, Bool.not_eq_true', decide_eq_true_eq] at h5
  obtain ⟨⟨⟨⟨⟨g1, g2⟩, g3⟩, g4⟩, g5⟩, g6⟩ := h5
  simp [Cond.before, Cond.holds, Cond.value, h1, h2, h3, h4, g1, g2, g3, g4, g5, g6]
def isCode : Jvm.Cond → Bool
  | .code _ _ _ _ => true
  | _ => false
theorem all_split {L : List Jvm.Cond} {P : Jvm.Cond → Bool} (h1 : L.all (fun c => isCode c || P c) = true) (h2 : ∀ c ∈ L.filter isCode, P c = true) : L.all P = true := by
  refine List.all_eq_true.mpr fun c hc => ?_
  have h := List.all_eq_true.mp h1 c hc
  rcases Bool.eq_false_or_eq_true (isCode c) with hi | hi
  · exact h2 c (List.mem_filter.mpr ⟨hc, hi⟩)
  · simpa [hi] using h
set_option maxRecDepth 65536 in
theorem w_c0 : (Jvm.Cond.code x code maxLocals ret).before args0 about1 = true := code_word (m := ⟨1, 1⟩) (meth := k1m1) (c := k1c1) (by decide +kernel) rfl rfl rfl (by decide +kernel)
set_option maxRecDepth 65536 in
theorem w_c1 : (Jvm.Cond.code ({ cls := "com/example/tributary/tributary/model/NodeHashes", name := "<init>", desc := "(IJ)V" } : Jvm.MethodName) prog_47_method_1_code (4 : Nat) (Option.none : Option Jvm.ClassFile.FieldType)).before args0 about1 = true := code_word (m := ⟨2, 0⟩) (meth := k2m0) (c := k2c0) (by decide +kernel) rfl rfl rfl (by decide +kernel)
set_option maxRecDepth 65536 in
theorem w_c2 : (Jvm.Cond.code ({ cls := "java/lang/Object", name := "<init>", desc := "()V" } : Jvm.MethodName) object_method_1_code (1 : Nat) (Option.none : Option Jvm.ClassFile.FieldType)).before args0 about1 = true := code_word (m := ⟨0, 0⟩) (meth := k0m0) (c := k0c0) (by decide +kernel) rfl rfl rfl (by decide +kernel)
set_option maxRecDepth 65536 in
theorem w_c3 : (Jvm.Cond.code ({ cls := "java/lang/Math", name := "min", desc := "(JJ)J" } : Jvm.MethodName) jdk_29_method_70_code (4 : Nat) (Option.some Jvm.ClassFile.FieldType.long)).before args0 about1 = true := code_word (m := ⟨3, 2⟩) (meth := k3m2) (c := k3c2) (by decide +kernel) rfl rfl rfl (by decide +kernel)
set_option maxRecDepth 65536 in
theorem w_c4 : (Jvm.Cond.code ({ cls := "java/lang/Math", name := "toIntExact", desc := "(J)I" } : Jvm.MethodName) jdk_29_method_43_code (2 : Nat) (Option.some Jvm.ClassFile.FieldType.int)).before args0 about1 = true := code_word (m := ⟨3, 1⟩) (meth := k3m1) (c := k3c1) (by decide +kernel) rfl rfl rfl (by decide +kernel)
set_option maxRecDepth 65536 in
theorem w_c5 : (Jvm.Cond.code ({ cls := "com/example/tributary/tributary/model/NodeHashes", name := "bytes", desc := "()J" } : Jvm.MethodName) prog_47_method_8_code (1 : Nat) (Option.some Jvm.ClassFile.FieldType.long)).before args0 about1 = true := code_word (m := ⟨2, 3⟩) (meth := k2m3) (c := k2c3) (by decide +kernel) rfl rfl rfl (by decide +kernel)
set_option maxRecDepth 65536 in
theorem w_c6 : (Jvm.Cond.code ({ cls := "com/example/tributary/tributary/model/NodeHashes", name := "put", desc := "(J[B)V" } : Jvm.MethodName) prog_47_method_2_code (7 : Nat) (Option.none : Option Jvm.ClassFile.FieldType)).before args0 about1 = true := code_word (m := ⟨2, 1⟩) (meth := k2m1) (c := k2c1) (by decide +kernel) rfl rfl rfl (by decide +kernel)
set_option maxRecDepth 65536 in
theorem w_c7 : (Jvm.Cond.code ({ cls := "com/example/tributary/tributary/model/NodeHashes$Page", name := "<init>", desc := "(II)V" } : Jvm.MethodName) prog_48_method_1_code (3 : Nat) (Option.none : Option Jvm.ClassFile.FieldType)).before args0 about1 = true := code_word (m := ⟨4, 0⟩) (meth := k4m0) (c := k4c0) (by decide +kernel) rfl rfl rfl (by decide +kernel)
set_option maxRecDepth 65536 in
theorem w_c8 : (Jvm.Cond.code ({ cls := "java/util/BitSet", name := "<init>", desc := "(I)V" } : Jvm.MethodName) jdk_92_method_5_code (2 : Nat) (Option.none : Option Jvm.ClassFile.FieldType)).before args0 about1 = true := code_word (m := ⟨7, 4⟩) (meth := k7m4) (c := k7c4) (by decide +kernel) rfl rfl rfl (by decide +kernel)
set_option maxRecDepth 65536 in
theorem w_c9 : (Jvm.Cond.code ({ cls := "java/util/BitSet", name := "initWords", desc := "(I)V" } : Jvm.MethodName) jdk_92_method_6_code (2 : Nat) (Option.none : Option Jvm.ClassFile.FieldType)).before args0 about1 = true := code_word (m := ⟨7, 5⟩) (meth := k7m5) (c := k7c5) (by decide +kernel) rfl rfl rfl (by decide +kernel)
set_option maxRecDepth 65536 in
theorem w_c10 : (Jvm.Cond.code ({ cls := "java/util/BitSet", name := "wordIndex", desc := "(I)I" } : Jvm.MethodName) jdk_92_method_1_code (1 : Nat) (Option.some Jvm.ClassFile.FieldType.int)).before args0 about1 = true := code_word (m := ⟨7, 0⟩) (meth := k7m0) (c := k7c0) (by decide +kernel) rfl rfl rfl (by decide +kernel)
set_option maxRecDepth 65536 in
theorem w_c11 : (Jvm.Cond.code ({ cls := "java/util/BitSet", name := "get", desc := "(I)Z" } : Jvm.MethodName) jdk_92_method_26_code (3 : Nat) (Option.some Jvm.ClassFile.FieldType.boolean)).before args0 about1 = true := code_word (m := ⟨7, 11⟩) (meth := k7m11) (c := k7c11) (by decide +kernel) rfl rfl rfl (by decide +kernel)
set_option maxRecDepth 65536 in
theorem w_c12 : (Jvm.Cond.code ({ cls := "java/util/BitSet", name := "checkInvariants", desc := "()V" } : Jvm.MethodName) jdk_92_method_2_code (1 : Nat) (Option.none : Option Jvm.ClassFile.FieldType)).before args0 about1 = true := code_word (m := ⟨7, 1⟩) (meth := k7m1) (c := k7c1) (by decide +kernel) rfl rfl rfl (by decide +kernel)
set_option maxRecDepth 65536 in
theorem w_c13 : (Jvm.Cond.code ({ cls := "java/util/BitSet", name := "set", desc := "(I)V" } : Jvm.MethodName) jdk_92_method_19_code (3 : Nat) (Option.none : Option Jvm.ClassFile.FieldType)).before args0 about1 = true := code_word (m := ⟨7, 9⟩) (meth := k7m9) (c := k7c9) (by decide +kernel) rfl rfl rfl (by decide +kernel)
set_option maxRecDepth 65536 in
theorem w_c14 : (Jvm.Cond.code ({ cls := "java/util/BitSet", name := "expandTo", desc := "(I)V" } : Jvm.MethodName) jdk_92_method_15_code (3 : Nat) (Option.none : Option Jvm.ClassFile.FieldType)).before args0 about1 = true := code_word (m := ⟨7, 7⟩) (meth := k7m7) (c := k7c7) (by decide +kernel) rfl rfl rfl (by decide +kernel)
set_option maxRecDepth 65536 in
theorem w_c15 : (Jvm.Cond.code ({ cls := "java/util/BitSet", name := "ensureCapacity", desc := "(I)V" } : Jvm.MethodName) jdk_92_method_14_code (3 : Nat) (Option.none : Option Jvm.ClassFile.FieldType)).before args0 about1 = true := code_word (m := ⟨7, 6⟩) (meth := k7m6) (c := k7c6) (by decide +kernel) rfl rfl rfl (by decide +kernel)
set_option maxRecDepth 65536 in
theorem w_c16 : (Jvm.Cond.code ({ cls := "com/example/tributary/tributary/model/NodeHashes", name := "forget", desc := "(JJ)V" } : Jvm.MethodName) prog_47_method_5_code (11 : Nat) (Option.none : Option Jvm.ClassFile.FieldType)).before args0 about1 = true := code_word (m := ⟨2, 2⟩) (meth := k2m2) (c := k2c2) (by decide +kernel) rfl rfl rfl (by decide +kernel)
set_option maxRecDepth 65536 in
theorem w_c17 : (Jvm.Cond.code ({ cls := "java/util/BitSet", name := "nextSetBit", desc := "(I)I" } : Jvm.MethodName) jdk_92_method_28_code (5 : Nat) (Option.some Jvm.ClassFile.FieldType.int)).before args0 about1 = true := code_word (m := ⟨7, 12⟩) (meth := k7m12) (c := k7c12) (by decide +kernel) rfl rfl rfl (by decide +kernel)
set_option maxRecDepth 65536 in
theorem w_c18 : (Jvm.Cond.code ({ cls := "java/lang/Long", name := "numberOfTrailingZeros", desc := "(J)I" } : Jvm.MethodName) jdk_35_method_49_code (3 : Nat) (Option.some Jvm.ClassFile.FieldType.int)).before args0 about1 = true := code_word (m := ⟨13, 1⟩) (meth := k13m1) (c := k13c1) (by decide +kernel) rfl rfl rfl (by decide +kernel)
set_option maxRecDepth 65536 in
theorem w_c19 : (Jvm.Cond.code ({ cls := "java/lang/Integer", name := "numberOfTrailingZeros", desc := "(I)I" } : Jvm.MethodName) jdk_33_method_48_code (2 : Nat) (Option.some Jvm.ClassFile.FieldType.int)).before args0 about1 = true := code_word (m := ⟨14, 1⟩) (meth := k14m1) (c := k14c1) (by decide +kernel) rfl rfl rfl (by decide +kernel)
set_option maxRecDepth 65536 in
theorem w_c20 : (Jvm.Cond.code ({ cls := "java/util/BitSet", name := "clear", desc := "(II)V" } : Jvm.MethodName) jdk_92_method_24_code (10 : Nat) (Option.none : Option Jvm.ClassFile.FieldType)).before args0 about1 = true := code_word (m := ⟨7, 10⟩) (meth := k7m10) (c := k7c10) (by decide +kernel) rfl rfl rfl (by decide +kernel)
set_option maxRecDepth 65536 in
theorem w_c21 : (Jvm.Cond.code ({ cls := "java/util/BitSet", name := "checkRange", desc := "(II)V" } : Jvm.MethodName) jdk_92_method_16_code (2 : Nat) (Option.none : Option Jvm.ClassFile.FieldType)).before args0 about1 = true := code_word (m := ⟨7, 8⟩) (meth := k7m8) (c := k7c8) (by decide +kernel) rfl rfl rfl (by decide +kernel)
set_option maxRecDepth 65536 in
theorem w_c22 : (Jvm.Cond.code ({ cls := "java/util/BitSet", name := "recalculateWordsInUse", desc := "()V" } : Jvm.MethodName) jdk_92_method_3_code (2 : Nat) (Option.none : Option Jvm.ClassFile.FieldType)).before args0 about1 = true := code_word (m := ⟨7, 2⟩) (meth := k7m2) (c := k7c2) (by decide +kernel) rfl rfl rfl (by decide +kernel)
set_option maxRecDepth 65536 in
theorem w_c23 : (Jvm.Cond.code ({ cls := "java/util/BitSet", name := "length", desc := "()I" } : Jvm.MethodName) jdk_92_method_32_code (1 : Nat) (Option.some Jvm.ClassFile.FieldType.int)).before args0 about1 = true := code_word (m := ⟨7, 13⟩) (meth := k7m13) (c := k7c13) (by decide +kernel) rfl rfl rfl (by decide +kernel)
set_option maxRecDepth 65536 in
theorem w_c24 : (Jvm.Cond.code ({ cls := "java/lang/Long", name := "numberOfLeadingZeros", desc := "(J)I" } : Jvm.MethodName) jdk_35_method_48_code (3 : Nat) (Option.some Jvm.ClassFile.FieldType.int)).before args0 about1 = true := code_word (m := ⟨13, 0⟩) (meth := k13m0) (c := k13c0) (by decide +kernel) rfl rfl rfl (by decide +kernel)
set_option maxRecDepth 65536 in
theorem w_c25 : (Jvm.Cond.code ({ cls := "java/lang/Integer", name := "numberOfLeadingZeros", desc := "(I)I" } : Jvm.MethodName) jdk_33_method_47_code (2 : Nat) (Option.some Jvm.ClassFile.FieldType.int)).before args0 about1 = true := code_word (m := ⟨14, 0⟩) (meth := k14m0) (c := k14c0) (by decide +kernel) rfl rfl rfl (by decide +kernel)
def codes1 : List Jvm.Cond := [Jvm.Cond.code x code maxLocals ret, Jvm.Cond.code ({ cls := "com/example/tributary/tributary/model/NodeHashes", name := "<init>", desc := "(IJ)V" } : Jvm.MethodName) prog_47_method_1_code (4 : Nat) (Option.none : Option Jvm.ClassFile.FieldType), Jvm.Cond.code ({ cls := "java/lang/Object", name := "<init>", desc := "()V" } : Jvm.MethodName) object_method_1_code (1 : Nat) (Option.none : Option Jvm.ClassFile.FieldType), Jvm.Cond.code ({ cls := "java/lang/Math", name := "min", desc := "(JJ)J" } : Jvm.MethodName) jdk_29_method_70_code (4 : Nat) (Option.some Jvm.ClassFile.FieldType.long), Jvm.Cond.code ({ cls := "java/lang/Math", name := "toIntExact", desc := "(J)I" } : Jvm.MethodName) jdk_29_method_43_code (2 : Nat) (Option.some Jvm.ClassFile.FieldType.int), Jvm.Cond.code ({ cls := "com/example/tributary/tributary/model/NodeHashes", name := "bytes", desc := "()J" } : Jvm.MethodName) prog_47_method_8_code (1 : Nat) (Option.some Jvm.ClassFile.FieldType.long), Jvm.Cond.code ({ cls := "com/example/tributary/tributary/model/NodeHashes", name := "put", desc := "(J[B)V" } : Jvm.MethodName) prog_47_method_2_code (7 : Nat) (Option.none : Option Jvm.ClassFile.FieldType), Jvm.Cond.code ({ cls := "com/example/tributary/tributary/model/NodeHashes$Page", name := "<init>", desc := "(II)V" } : Jvm.MethodName) prog_48_method_1_code (3 : Nat) (Option.none : Option Jvm.ClassFile.FieldType), Jvm.Cond.code ({ cls := "java/util/BitSet", name := "<init>", desc := "(I)V" } : Jvm.MethodName) jdk_92_method_5_code (2 : Nat) (Option.none : Option Jvm.ClassFile.FieldType), Jvm.Cond.code ({ cls := "java/util/BitSet", name := "initWords", desc := "(I)V" } : Jvm.MethodName) jdk_92_method_6_code (2 : Nat) (Option.none : Option Jvm.ClassFile.FieldType), Jvm.Cond.code ({ cls := "java/util/BitSet", name := "wordIndex", desc := "(I)I" } : Jvm.MethodName) jdk_92_method_1_code (1 : Nat) (Option.some Jvm.ClassFile.FieldType.int), Jvm.Cond.code ({ cls := "java/util/BitSet", name := "get", desc := "(I)Z" } : Jvm.MethodName) jdk_92_method_26_code (3 : Nat) (Option.some Jvm.ClassFile.FieldType.boolean), Jvm.Cond.code ({ cls := "java/util/BitSet", name := "checkInvariants", desc := "()V" } : Jvm.MethodName) jdk_92_method_2_code (1 : Nat) (Option.none : Option Jvm.ClassFile.FieldType), Jvm.Cond.code ({ cls := "java/util/BitSet", name := "set", desc := "(I)V" } : Jvm.MethodName) jdk_92_method_19_code (3 : Nat) (Option.none : Option Jvm.ClassFile.FieldType), Jvm.Cond.code ({ cls := "java/util/BitSet", name := "expandTo", desc := "(I)V" } : Jvm.MethodName) jdk_92_method_15_code (3 : Nat) (Option.none : Option Jvm.ClassFile.FieldType), Jvm.Cond.code ({ cls := "java/util/BitSet", name := "ensureCapacity", desc := "(I)V" } : Jvm.MethodName) jdk_92_method_14_code (3 : Nat) (Option.none : Option Jvm.ClassFile.FieldType), Jvm.Cond.code ({ cls := "com/example/tributary/tributary/model/NodeHashes", name := "forget", desc := "(JJ)V" } : Jvm.MethodName) prog_47_method_5_code (11 : Nat) (Option.none : Option Jvm.ClassFile.FieldType), Jvm.Cond.code ({ cls := "java/util/BitSet", name := "nextSetBit", desc := "(I)I" } : Jvm.MethodName) jdk_92_method_28_code (5 : Nat) (Option.some Jvm.ClassFile.FieldType.int), Jvm.Cond.code ({ cls := "java/lang/Long", name := "numberOfTrailingZeros", desc := "(J)I" } : Jvm.MethodName) jdk_35_method_49_code (3 : Nat) (Option.some Jvm.ClassFile.FieldType.int), Jvm.Cond.code ({ cls := "java/lang/Integer", name := "numberOfTrailingZeros", desc := "(I)I" } : Jvm.MethodName) jdk_33_method_48_code (2 : Nat) (Option.some Jvm.ClassFile.FieldType.int), Jvm.Cond.code ({ cls := "java/util/BitSet", name := "clear", desc := "(II)V" } : Jvm.MethodName) jdk_92_method_24_code (10 : Nat) (Option.none : Option Jvm.ClassFile.FieldType), Jvm.Cond.code ({ cls := "java/util/BitSet", name := "checkRange", desc := "(II)V" } : Jvm.MethodName) jdk_92_method_16_code (2 : Nat) (Option.none : Option Jvm.ClassFile.FieldType), Jvm.Cond.code ({ cls := "java/util/BitSet", name := "recalculateWordsInUse", desc := "()V" } : Jvm.MethodName) jdk_92_method_3_code (2 : Nat) (Option.none : Option Jvm.ClassFile.FieldType), Jvm.Cond.code ({ cls := "java/util/BitSet", name := "length", desc := "()I" } : Jvm.MethodName) jdk_92_method_32_code (1 : Nat) (Option.some Jvm.ClassFile.FieldType.int), Jvm.Cond.code ({ cls := "java/lang/Long", name := "numberOfLeadingZeros", desc := "(J)I" } : Jvm.MethodName) jdk_35_method_48_code (3 : Nat) (Option.some Jvm.ClassFile.FieldType.int), Jvm.Cond.code ({ cls := "java/lang/Integer", name := "numberOfLeadingZeros", desc := "(I)I" } : Jvm.MethodName) jdk_33_method_47_code (2 : Nat) (Option.some Jvm.ClassFile.FieldType.int)]
set_option maxRecDepth 65536 in
theorem codes_eq : words1.filter isCode = codes1 := rfl
theorem w_codes : ∀ c ∈ words1.filter isCode, c.before args0 about1 = true := by
  rw [codes_eq]
  intro c hc
  simp only [codes1, List.mem_cons, List.not_mem_nil, or_false] at hc
  rcases hc with rfl | rfl | rfl | rfl | rfl | rfl | rfl | rfl | rfl | rfl | rfl | rfl | rfl | rfl | rfl | rfl | rfl | rfl | rfl | rfl | rfl | rfl | rfl | rfl | rfl | rfl
  · exact w_c0
  · exact w_c1
  · exact w_c2
  · exact w_c3
  · exact w_c4
  · exact w_c5
  · exact w_c6
  · exact w_c7
  · exact w_c8
  · exact w_c9
  · exact w_c10
  · exact w_c11
  · exact w_c12
  · exact w_c13
  · exact w_c14
  · exact w_c15
  · exact w_c16
  · exact w_c17
  · exact w_c18
  · exact w_c19
  · exact w_c20
  · exact w_c21
  · exact w_c22
  · exact w_c23
  · exact w_c24
  · exact w_c25
set_option maxRecDepth 65536 in
theorem w_t1 : (words1.take 24).all (fun c => isCode c || c.before args0 about1) = true := by decide +kernel
set_option maxRecDepth 65536 in
theorem w_t2 : ((words1.drop 24).take 24).all (fun c => isCode c || c.before args0 about1) = true := by decide +kernel
set_option maxRecDepth 65536 in
theorem w_t3 : (((words1.drop 24).drop 24).take 24).all (fun c => isCode c || c.before args0 about1) = true := by decide +kernel
set_option maxRecDepth 65536 in
theorem w_t4 : ((((words1.drop 24).drop 24).drop 24).take 24).all (fun c => isCode c || c.before args0 about1) = true := by decide +kernel
set_option maxRecDepth 65536 in
theorem w_t5 : (((((words1.drop 24).drop 24).drop 24).drop 24).take 24).all (fun c => isCode c || c.before args0 about1) = true := by decide +kernel
set_option maxRecDepth 65536 in
theorem w_t6 : ((((((words1.drop 24).drop 24).drop 24).drop 24).drop 24).take 24).all (fun c => isCode c || c.before args0 about1) = true := by decide +kernel
set_option maxRecDepth 65536 in
theorem w_t7 : ((((((words1.drop 24).drop 24).drop 24).drop 24).drop 24).drop 24).all (fun c => isCode c || c.before args0 about1) = true := by decide +kernel
theorem w_tables : (allAtoms (Jvm.Cond.code x code maxLocals ret :: tables_1)).before args0 about1 = true := by
  rw [allAtoms_all]
  show words1.all (fun c => c.before args0 about1) = true
  refine all_split ?_ w_codes
  rw [← List.take_append_drop 24 words1, List.all_append, w_t1, ← List.take_append_drop 24 (words1.drop 24), List.all_append, w_t2, ← List.take_append_drop 24 ((words1.drop 24).drop 24), List.all_append, w_t3, ← List.take_append_drop 24 (((words1.drop 24).drop 24).drop 24), List.all_append, w_t4, ← List.take_append_drop 24 ((((words1.drop 24).drop 24).drop 24).drop 24), List.all_append, w_t5, ← List.take_append_drop 24 (((((words1.drop 24).drop 24).drop 24).drop 24).drop 24), List.all_append, w_t6, w_t7]
  rfl
set_option maxRecDepth 65536 in
theorem w_rest : rest_1_c.before args0 about1 = true := by decide +kernel
set_option maxRecDepth 65536 in
theorem w_case : (Jvm.Cond.and given_1 narrow_1).before args0 about1 = true := by decide +kernel
theorem w_applies : (headSpec (Jvm.Cond.code x code maxLocals ret :: tables_1) room_1).applies x e0.platform about1 = true :=
  (Spec.applies_iff w_frames).mpr ⟨w_running, w_runnable, w_alone, w_named, w_hears, w_ripe, w_room, w_tables⟩
theorem atStart : AtStart classFile x code maxLocals ret World_1 tables_1 room_1 Calls_1 rest_1 Pre_1 launch0 p0 e0 about1 theMethod args0 below0 :=
  ⟨lists_1, trivial, launch0.admits_env _ _ _, launch0.least_env, fairChoices_fair.cas, fairChoices_fair.clock, w_frames, w_args, w_heap, w_applies, trivial, w_rest, w_case⟩
end start1
theorem witness_1 : WitnessClaimed_1 := ⟨start1.p0, start1.e0, start1.about1, start1.theMethod, start1.args0, start1.below0, start1.atStart⟩
end Jvm.Pilot.@@N@@
