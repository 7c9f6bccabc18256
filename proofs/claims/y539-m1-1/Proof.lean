import JvmDerived
import JvmDerived.Pilot.@@N@@Statement
import JvmDerived.Pilot.@@N@@Code
set_option linter.unusedVariables false
set_option linter.unusedSimpArgs false
namespace Jvm.Pilot.@@N@@
open Jvm Jvm.ClassFile Sem Op Lib Jvm.Free Jvm.Stand Jvm.LawKit Jvm.RoadKit Bundle Jvm.Pilot.@@N@@.Jvm.D
section Own
theorem cut {P G : Prop} (f : P → G) (g : P) : G := f g
theorem ha_ge {h0 h : Heap} {a : Addr} (q : h0.size ≤ h.size) (e : a = h.size) : h0.size ≤ a := by rw [e]; exact q
/-- what stands fixed in one invocation's walk -/
abbrev Ev : Type := Program × Launch × Env × Room × State × MethodId × Array Value × List Frame × Method × Code × Nat × (Option Value → Heap → Prop)
def Dc (bytes : ByteArray) (pc : Nat) (i : Instr) (len pc' : Nat) : Prop := decode bytes pc = .ok (i, len) ∧ pc + len = pc'
def Db (bytes : ByteArray) (pc : Nat) (i : Instr) (o : Int) (pc1 pc2 : Nat) : Prop := decode bytes pc = .ok (i, 3) ∧ pc + 3 = pc1 ∧ 0 ≤ (pc : Int) + o ∧ ((pc : Int) + o).toNat = pc2
/-- from this heap, these counts, pc, locals and stack the invocation comes to a return of which its Q holds -/
def Wk : Ev → Heap → Nat → Nat → Nat → Array Slot → List Value → Prop
  | (p, l, e, R, s, m, args, below, meth, c, n0, Q), h, kc, kn, pc, ls, st => ∀ (T : State) (locs : List Loc), Stand p l e R s m args below meth c T locs kc kn → T.heap = h → Fr n0 locs →
    ∃ s₂ o, Steps p.tables e below (T.setTop (mkF m pc ls st)) s₂ ∧ s₂.status = .running ∧ Ended s₂ below o ∧ ∃ v L, o = .returned v ∧ (Q v s₂.heap ∧ Fr n0 L) ∧ FrameEnd s o s₂ L R.cells R.slots
def Kf (p : Program) (s : State) (m : MethodId) (meth : Method) (c : Code) (y : MethodName) (bytes : ByteArray) (ml : Nat) (rt : Option FieldType) (Z : State) (n0 : Nat) : Prop :=
  p.tables.exec = Jvm.exec ∧ c.code = bytes ∧ c.maxLocals = ml ∧ meth.sig.returnType = rt ∧ meth.locks = false ∧ Z.Warmed39 s.vm ∧ s.vm.findClass y.cls = some m.cls ∧ meth.name = y.name ∧ n0 ≤ s.heap.size
def Kx (E : Ev) (y : MethodName) (bytes : ByteArray) (ml : Nat) (rt : Option FieldType) (l : Launch) (Z : State) (R : Room) (n0 : Nat) (Q : Option Value → Heap → Prop) : Prop :=
  ∃ p e s m args below meth c, E = (p, l, e, R, s, m, args, below, meth, c, n0, Q) ∧ Kf p s m meth c y bytes ml rt Z n0
/-- a callee's contract at one heap and one row of arguments -/
def Con (l : Launch) (Z : State) (y : MethodName) (bytes : ByteArray) (ml : Nat) (rt : Option FieldType) (rm : Room) (as : Array Value) (h : Heap) (n0 : Nat) (Q : Option Value → Heap → Prop) : Prop :=
  n0 ≤ h.size → ∀ ws : List Jvm.Cond, MetFree l y (head1 (Jvm.Cond.code y bytes ml rt :: ws) rm) (fun a U => a = as ∧ Z.Warmed39 U.vm ∧ U.heap = h) (fun _ _ _ _ _ => True) (fun _ U o U' => ∃ v L, o = .returned v ∧ (Q v U'.heap ∧ Fr n0 L) ∧ FrameEnd U o U' L rm.cells rm.slots)
variable {E : Ev} {y : MethodName} {bytes : ByteArray} {ml : Nat} {rt : Option FieldType} {l : Launch} {Z : State} {R : Room} {n0 : Nat} {Q : Option Value → Heap → Prop} {a0 : Array Value} {h h' : Heap} {kc kn kc' kn' pc pc' pc1 pc2 : Nat} {ls ls' : Array Slot} {st : List Value} {a b : Addr}
theorem Con.of (pn : plainFor y = true) {as : Array Value} {rm : Room} (ef : ∀ m, entryFrame m as ml = mkF m 0 ls []) (body : ∀ E : Ev, Kx E y bytes ml rt l Z rm n0 Q → Wk E h 0 0 0 ls []) : Con l Z y bytes ml rt rm as h n0 Q := by
  intro hn ws
  refine MetFree.of_bodySF pn hisR ?_
  intro p e s m args below meth c s₁ Bd hml0 hP hK
  obtain ⟨ha, hZ, hh⟩ := hP
  subst ha
  have X0 : Stand p l e rm s m args below meth c s₁ [] 0 0 := Stand.of_body Bd
  have e0 : s₁.heap = h := by rw [← hh, Bd.state]; rfl
  obtain ⟨s₂, o, q, r⟩ := body (p, l, e, rm, s, m, args, below, meth, c, n0, Q) ⟨p, e, s, m, args, below, meth, c, rfl, Bd.exec, Bd.bytes, hml0, Bd.returns, Bd.notSynchronized, hZ, findClass_of_methodNamed Bd.named, (name_of_methodNamed Bd.named Bd.method).1, by rw [hh]; exact hn⟩ s₁ [] X0 e0 (Fr.nil n0)
  exact ⟨s₂, o, castTop (ef m) q, r⟩
theorem Kx.lift {st' : List Value} (K : Kx E y bytes ml rt l Z R n0 Q) (f : ∀ (p : Program) (e : Env) (s : State) (m : MethodId) (args : Array Value) (below : List Frame) (meth : Method) (c : Code), Kf p s m meth c y bytes ml rt Z n0 → ∀ (T : State) (locs : List Loc), Stand p l e R s m args below meth c T locs kc kn → T.heap = h → ∀ t, Steps p.tables e below (T.setTop (mkF m pc' ls' st)) t → Steps p.tables e below (T.setTop (mkF m pc ls st')) t) (k : Wk E h kc kn pc' ls' st) : Wk E h kc kn pc ls st' := by
  obtain ⟨p, e, s, m, args, below, meth, c, rfl, F⟩ := K
  intro T locs X eT N
  obtain ⟨s₂, o, q, r⟩ := k T locs X eT N
  exact ⟨s₂, o, f p e s m args below meth c F T locs X eT s₂ q, r⟩
theorem Kx.move (K : Kx E y bytes ml rt l Z R n0 Q) (f : ∀ (p : Program) (e : Env) (s : State) (m : MethodId) (args : Array Value) (below : List Frame) (meth : Method) (c : Code), Kf p s m meth c y bytes ml rt Z n0 → ∀ (T : State) (locs : List Loc), Stand p l e R s m args below meth c T locs kc kn → T.heap = h → Fr n0 locs →
    ∃ (T' : State) (locs' : List Loc) (h' : Heap) (kc' kn' pc' : Nat) (ls' : Array Slot) (st' : List Value), Stand p l e R s m args below meth c T' locs' kc' kn' ∧ T'.heap = h' ∧ Fr n0 locs' ∧ h.size ≤ h'.size ∧ Wk E h' kc' kn' pc' ls' st' ∧ ∀ t, Steps p.tables e below (T'.setTop (mkF m pc' ls' st')) t → Steps p.tables e below (T.setTop (mkF m pc ls st)) t) : Wk E h kc kn pc ls st := by
  obtain ⟨p, e, s, m, args, below, meth, c, rfl, F⟩ := K
  intro T locs X eT N
  obtain ⟨T', locs', h', kc', kn', pc', ls', st', X', e', N', -, k, q'⟩ := f p e s m args below meth c F T locs X eT N
  obtain ⟨s₂, o, q, r⟩ := k T' locs' X' e' N'
  exact ⟨s₂, o, q' _ q, r⟩

theorem Kx.aloadN (K : Kx E y bytes ml rt l Z R n0 Q) {k : Fin 4} {v : Value} (hd : Dc bytes pc (.aload_n k) 1 pc') (hl : ls[k.val]? = some (.val v)) (hv : v.isRef = true) (k : Wk E h kc kn pc' ls (v :: st)) : Wk E h kc kn pc ls st := by
  obtain ⟨hd, rfl⟩ := hd
  exact K.lift (fun p e s m args below meth c F T locs X eT t q => XS.aloadN X.here F.1 rfl (hb F.2.1 hd) hl hv q) k
theorem Kx.iloadN (K : Kx E y bytes ml rt l Z R n0 Q) {k : Fin 4} {v : Int32} (hd : Dc bytes pc (.iload_n k) 1 pc') (hl : ls[k.val]? = some (.val (.int v))) (k : Wk E h kc kn pc' ls (.int v :: st)) : Wk E h kc kn pc ls st := by
  obtain ⟨hd, rfl⟩ := hd
  exact K.lift (fun p e s m args below meth c F T locs X eT t q => XS.iloadN X.here F.1 rfl (hb F.2.1 hd) hl q) k
theorem Kx.lloadN (K : Kx E y bytes ml rt l Z R n0 Q) {k : Fin 4} {v : Int64} (hd : Dc bytes pc (.lload_n k) 1 pc') (hl : ls[k.val]? = some (.val (.long v))) (k : Wk E h kc kn pc' ls (.long v :: st)) : Wk E h kc kn pc ls st := by
  obtain ⟨hd, rfl⟩ := hd
  exact K.lift (fun p e s m args below meth c F T locs X eT t q => XS.lloadN X.here F.1 rfl (hb F.2.1 hd) hl q) k
theorem Kx.istoreN (K : Kx E y bytes ml rt l Z R n0 Q) {k : Fin 4} {x : Int32} (ls' : Array Slot) (hd : Dc bytes pc (.istore_n k) 1 pc') (hl : storeLocals ls k.val (.int x) = some ls') (k : Wk E h kc kn pc' ls' st) : Wk E h kc kn pc ls (.int x :: st) := by
  obtain ⟨hd, rfl⟩ := hd
  exact K.lift (fun p e s m args below meth c F T locs X eT t q => XS.istoreN X.here F.1 rfl (hb F.2.1 hd) rfl hl q) k
theorem Kx.lstoreN (K : Kx E y bytes ml rt l Z R n0 Q) {k : Fin 4} {x : Int64} (ls' : Array Slot) (hd : Dc bytes pc (.lstore_n k) 1 pc') (hl : storeLocals ls k.val (.long x) = some ls') (k : Wk E h kc kn pc' ls' st) : Wk E h kc kn pc ls (.long x :: st) := by
  obtain ⟨hd, rfl⟩ := hd
  exact K.lift (fun p e s m args below meth c F T locs X eT t q => XS.lstoreN X.here F.1 rfl (hb F.2.1 hd) rfl hl q) k
theorem Kx.astoreN (K : Kx E y bytes ml rt l Z R n0 Q) {k : Fin 4} {x : Value} (ls' : Array Slot) (hd : Dc bytes pc (.astore_n k) 1 pc') (hv : x.isRef = true) (hl : storeLocals ls k.val x = some ls') (k : Wk E h kc kn pc' ls' st) : Wk E h kc kn pc ls (x :: st) := by
  obtain ⟨hd, rfl⟩ := hd
  exact K.lift (fun p e s m args below meth c F T locs X eT t q => XS.astoreN X.here F.1 rfl (hb F.2.1 hd) rfl hv hl q) k
theorem Kx.aload (K : Kx E y bytes ml rt l Z R n0 Q) {k : Nat} {v : Value} (hd : Dc bytes pc (.aload k) 2 pc') (hl : ls[k]? = some (.val v)) (hv : v.isRef = true) (k : Wk E h kc kn pc' ls (v :: st)) : Wk E h kc kn pc ls st := by
  obtain ⟨hd, rfl⟩ := hd
  exact K.lift (fun p e s m args below meth c F T locs X eT t q => XS.aload X.here F.1 rfl (hb F.2.1 hd) hl hv q) k
theorem Kx.iload (K : Kx E y bytes ml rt l Z R n0 Q) {k : Nat} {v : Int32} (hd : Dc bytes pc (.iload k) 2 pc') (hl : ls[k]? = some (.val (.int v))) (k : Wk E h kc kn pc' ls (.int v :: st)) : Wk E h kc kn pc ls st := by
  obtain ⟨hd, rfl⟩ := hd
  exact K.lift (fun p e s m args below meth c F T locs X eT t q => XS.iload X.here F.1 rfl (hb F.2.1 hd) hl q) k
theorem Kx.lload (K : Kx E y bytes ml rt l Z R n0 Q) {k : Nat} {v : Int64} (hd : Dc bytes pc (.lload k) 2 pc') (hl : ls[k]? = some (.val (.long v))) (k : Wk E h kc kn pc' ls (.long v :: st)) : Wk E h kc kn pc ls st := by
  obtain ⟨hd, rfl⟩ := hd
  exact K.lift (fun p e s m args below meth c F T locs X eT t q => XS.lload X.here F.1 rfl (hb F.2.1 hd) hl q) k
theorem Kx.istore (K : Kx E y bytes ml rt l Z R n0 Q) {k : Nat} {x : Int32} (ls' : Array Slot) (hd : Dc bytes pc (.istore k) 2 pc') (hl : storeLocals ls k (.int x) = some ls') (k : Wk E h kc kn pc' ls' st) : Wk E h kc kn pc ls (.int x :: st) := by
  obtain ⟨hd, rfl⟩ := hd
  exact K.lift (fun p e s m args below meth c F T locs X eT t q => XS.istore X.here F.1 rfl (hb F.2.1 hd) rfl hl q) k
theorem Kx.lstore (K : Kx E y bytes ml rt l Z R n0 Q) {k : Nat} {x : Int64} (ls' : Array Slot) (hd : Dc bytes pc (.lstore k) 2 pc') (hl : storeLocals ls k (.long x) = some ls') (k : Wk E h kc kn pc' ls' st) : Wk E h kc kn pc ls (.long x :: st) := by
  obtain ⟨hd, rfl⟩ := hd
  exact K.lift (fun p e s m args below meth c F T locs X eT t q => XS.lstore X.here F.1 rfl (hb F.2.1 hd) rfl hl q) k
theorem Kx.astore (K : Kx E y bytes ml rt l Z R n0 Q) {k : Nat} {x : Value} (ls' : Array Slot) (hd : Dc bytes pc (.astore k) 2 pc') (hv : x.isRef = true) (hl : storeLocals ls k x = some ls') (k : Wk E h kc kn pc' ls' st) : Wk E h kc kn pc ls (x :: st) := by
  obtain ⟨hd, rfl⟩ := hd
  exact K.lift (fun p e s m args below meth c F T locs X eT t q => XS.astore X.here F.1 rfl (hb F.2.1 hd) rfl hv hl q) k
theorem Kx.iinc (K : Kx E y bytes ml rt l Z R n0 Q) {k : Nat} {cst : Int} {x : Int32} (z : Int32) (ls' : Array Slot) (hd : Dc bytes pc (.iinc k cst) 3 pc') (hl : ls[k]? = some (.val (.int x))) (hz : x + Int32.ofInt cst = z) (hl' : storeLocals ls k (.int z) = some ls') (k : Wk E h kc kn pc' ls' st) : Wk E h kc kn pc ls st := by
  obtain ⟨hd, rfl⟩ := hd
  exact K.lift (fun p e s m args below meth c F T locs X eT t q => XS.iinc X.here F.1 rfl (hb F.2.1 hd) hl (by rw [hz]; exact hl') q) k
theorem Kx.iconst (K : Kx E y bytes ml rt l Z R n0 Q) {i : Int} (z : Int32) (hd : Dc bytes pc (.iconst i) 1 pc') (hz : Int32.ofInt i = z) (k : Wk E h kc kn pc' ls (.int z :: st)) : Wk E h kc kn pc ls st := by
  obtain ⟨hd, rfl⟩ := hd
  exact K.lift (fun p e s m args below meth c F T locs X eT t q => XS.iconst X.here F.1 rfl (hb F.2.1 hd) (by rw [hz]; exact q)) k
theorem Kx.lconst (K : Kx E y bytes ml rt l Z R n0 Q) {i : Fin 2} (z : Int64) (hd : Dc bytes pc (.lconst i) 1 pc') (hz : Int64.ofNat i = z) (k : Wk E h kc kn pc' ls (.long z :: st)) : Wk E h kc kn pc ls st := by
  obtain ⟨hd, rfl⟩ := hd
  exact K.lift (fun p e s m args below meth c F T locs X eT t q => XS.lconst X.here F.1 rfl (hb F.2.1 hd) (by rw [hz]; exact q)) k
theorem Kx.bipush (K : Kx E y bytes ml rt l Z R n0 Q) {i : Int} (z : Int32) (hd : Dc bytes pc (.bipush i) 2 pc') (hz : (Int8.ofInt i).toInt32 = z) (k : Wk E h kc kn pc' ls (.int z :: st)) : Wk E h kc kn pc ls st := by
  obtain ⟨hd, rfl⟩ := hd
  exact K.lift (fun p e s m args below meth c F T locs X eT t q => XS.bipush X.here F.1 rfl (hb F.2.1 hd) (by rw [hz]; exact q)) k
theorem Kx.sipush (K : Kx E y bytes ml rt l Z R n0 Q) {i : Int} (z : Int32) (hd : Dc bytes pc (.sipush i) 3 pc') (hz : (Int16.ofInt i).toInt32 = z) (k : Wk E h kc kn pc' ls (.int z :: st)) : Wk E h kc kn pc ls st := by
  obtain ⟨hd, rfl⟩ := hd
  exact K.lift (fun p e s m args below meth c F T locs X eT t q => XS.sipush X.here F.1 rfl (hb F.2.1 hd) (by rw [hz]; exact q)) k
theorem Kx.aconst_null (K : Kx E y bytes ml rt l Z R n0 Q)  (hd : Dc bytes pc .aconst_null 1 pc') (k : Wk E h kc kn pc' ls (.null :: st)) : Wk E h kc kn pc ls st := by
  obtain ⟨hd, rfl⟩ := hd
  exact K.lift (fun p e s m args below meth c F T locs X eT t q => XS.aconstNull X.here F.1 rfl (hb F.2.1 hd) q) k
theorem Kx.iadd (K : Kx E y bytes ml rt l Z R n0 Q) {x y' : Int32} (hd : Dc bytes pc .iadd 1 pc') (k : Wk E h kc kn pc' ls (.int (x + y') :: st)) : Wk E h kc kn pc ls (.int y' :: .int x :: st) := by
  obtain ⟨hd, rfl⟩ := hd
  exact K.lift (fun p e s m args below meth c F T locs X eT t q => XS.iadd X.here F.1 rfl (hb F.2.1 hd) rfl q) k
theorem Kx.isub (K : Kx E y bytes ml rt l Z R n0 Q) {x y' : Int32} (hd : Dc bytes pc .isub 1 pc') (k : Wk E h kc kn pc' ls (.int (x - y') :: st)) : Wk E h kc kn pc ls (.int y' :: .int x :: st) := by
  obtain ⟨hd, rfl⟩ := hd
  exact K.lift (fun p e s m args below meth c F T locs X eT t q => XS.isub X.here F.1 rfl (hb F.2.1 hd) rfl q) k
theorem Kx.imul (K : Kx E y bytes ml rt l Z R n0 Q) {x y' : Int32} (hd : Dc bytes pc .imul 1 pc') (k : Wk E h kc kn pc' ls (.int (x * y') :: st)) : Wk E h kc kn pc ls (.int y' :: .int x :: st) := by
  obtain ⟨hd, rfl⟩ := hd
  exact K.lift (fun p e s m args below meth c F T locs X eT t q => XS.imul X.here F.1 rfl (hb F.2.1 hd) rfl q) k
theorem Kx.iand (K : Kx E y bytes ml rt l Z R n0 Q) {x y' : Int32} (hd : Dc bytes pc .iand 1 pc') (k : Wk E h kc kn pc' ls (.int (x &&& y') :: st)) : Wk E h kc kn pc ls (.int y' :: .int x :: st) := by
  obtain ⟨hd, rfl⟩ := hd
  exact K.lift (fun p e s m args below meth c F T locs X eT t q => XS.iand X.here F.1 rfl (hb F.2.1 hd) rfl q) k
theorem Kx.ior (K : Kx E y bytes ml rt l Z R n0 Q) {x y' : Int32} (hd : Dc bytes pc .ior 1 pc') (k : Wk E h kc kn pc' ls (.int (x ||| y') :: st)) : Wk E h kc kn pc ls (.int y' :: .int x :: st) := by
  obtain ⟨hd, rfl⟩ := hd
  exact K.lift (fun p e s m args below meth c F T locs X eT t q => XS.ior X.here F.1 rfl (hb F.2.1 hd) rfl q) k
theorem Kx.ixor (K : Kx E y bytes ml rt l Z R n0 Q) {x y' : Int32} (hd : Dc bytes pc .ixor 1 pc') (k : Wk E h kc kn pc' ls (.int (x ^^^ y') :: st)) : Wk E h kc kn pc ls (.int y' :: .int x :: st) := by
  obtain ⟨hd, rfl⟩ := hd
  exact K.lift (fun p e s m args below meth c F T locs X eT t q => XS.ixor X.here F.1 rfl (hb F.2.1 hd) rfl q) k
theorem Kx.ishl (K : Kx E y bytes ml rt l Z R n0 Q) {x y' : Int32} (hd : Dc bytes pc .ishl 1 pc') (k : Wk E h kc kn pc' ls (.int (x <<< (y' &&& 31)) :: st)) : Wk E h kc kn pc ls (.int y' :: .int x :: st) := by
  obtain ⟨hd, rfl⟩ := hd
  exact K.lift (fun p e s m args below meth c F T locs X eT t q => XS.ishl X.here F.1 rfl (hb F.2.1 hd) rfl q) k
theorem Kx.ishr (K : Kx E y bytes ml rt l Z R n0 Q) {x y' : Int32} (hd : Dc bytes pc .ishr 1 pc') (k : Wk E h kc kn pc' ls (.int (x >>> (y' &&& 31)) :: st)) : Wk E h kc kn pc ls (.int y' :: .int x :: st) := by
  obtain ⟨hd, rfl⟩ := hd
  exact K.lift (fun p e s m args below meth c F T locs X eT t q => XS.ishr X.here F.1 rfl (hb F.2.1 hd) rfl q) k
theorem Kx.iushr (K : Kx E y bytes ml rt l Z R n0 Q) {x y' : Int32} (hd : Dc bytes pc .iushr 1 pc') (k : Wk E h kc kn pc' ls (.int ((x.toUInt32 >>> (y' &&& 31).toUInt32).toInt32) :: st)) : Wk E h kc kn pc ls (.int y' :: .int x :: st) := by
  obtain ⟨hd, rfl⟩ := hd
  exact K.lift (fun p e s m args below meth c F T locs X eT t q => XS.iushr X.here F.1 rfl (hb F.2.1 hd) rfl q) k
theorem Kx.ladd (K : Kx E y bytes ml rt l Z R n0 Q) {x y' : Int64} (hd : Dc bytes pc .ladd 1 pc') (k : Wk E h kc kn pc' ls (.long (x + y') :: st)) : Wk E h kc kn pc ls (.long y' :: .long x :: st) := by
  obtain ⟨hd, rfl⟩ := hd
  exact K.lift (fun p e s m args below meth c F T locs X eT t q => XS.ladd X.here F.1 rfl (hb F.2.1 hd) rfl q) k
theorem Kx.lsub (K : Kx E y bytes ml rt l Z R n0 Q) {x y' : Int64} (hd : Dc bytes pc .lsub 1 pc') (k : Wk E h kc kn pc' ls (.long (x - y') :: st)) : Wk E h kc kn pc ls (.long y' :: .long x :: st) := by
  obtain ⟨hd, rfl⟩ := hd
  exact K.lift (fun p e s m args below meth c F T locs X eT t q => XS.lsub X.here F.1 rfl (hb F.2.1 hd) rfl q) k
theorem Kx.lmul (K : Kx E y bytes ml rt l Z R n0 Q) {x y' : Int64} (hd : Dc bytes pc .lmul 1 pc') (k : Wk E h kc kn pc' ls (.long (x * y') :: st)) : Wk E h kc kn pc ls (.long y' :: .long x :: st) := by
  obtain ⟨hd, rfl⟩ := hd
  exact K.lift (fun p e s m args below meth c F T locs X eT t q => XS.lmul X.here F.1 rfl (hb F.2.1 hd) rfl q) k
theorem Kx.land (K : Kx E y bytes ml rt l Z R n0 Q) {x y' : Int64} (hd : Dc bytes pc .land 1 pc') (k : Wk E h kc kn pc' ls (.long (x &&& y') :: st)) : Wk E h kc kn pc ls (.long y' :: .long x :: st) := by
  obtain ⟨hd, rfl⟩ := hd
  exact K.lift (fun p e s m args below meth c F T locs X eT t q => XS.land X.here F.1 rfl (hb F.2.1 hd) rfl q) k
theorem Kx.lor (K : Kx E y bytes ml rt l Z R n0 Q) {x y' : Int64} (hd : Dc bytes pc .lor 1 pc') (k : Wk E h kc kn pc' ls (.long (x ||| y') :: st)) : Wk E h kc kn pc ls (.long y' :: .long x :: st) := by
  obtain ⟨hd, rfl⟩ := hd
  exact K.lift (fun p e s m args below meth c F T locs X eT t q => XS.lor X.here F.1 rfl (hb F.2.1 hd) rfl q) k
theorem Kx.lxor (K : Kx E y bytes ml rt l Z R n0 Q) {x y' : Int64} (hd : Dc bytes pc .lxor 1 pc') (k : Wk E h kc kn pc' ls (.long (x ^^^ y') :: st)) : Wk E h kc kn pc ls (.long y' :: .long x :: st) := by
  obtain ⟨hd, rfl⟩ := hd
  exact K.lift (fun p e s m args below meth c F T locs X eT t q => XS.lxor X.here F.1 rfl (hb F.2.1 hd) rfl q) k
theorem Kx.lshl (K : Kx E y bytes ml rt l Z R n0 Q) {x : Int64} {y' : Int32} (hd : Dc bytes pc .lshl 1 pc') (k : Wk E h kc kn pc' ls (.long (x <<< (y' &&& 63).toInt64) :: st)) : Wk E h kc kn pc ls (.int y' :: .long x :: st) := by
  obtain ⟨hd, rfl⟩ := hd
  exact K.lift (fun p e s m args below meth c F T locs X eT t q => XS.lshl X.here F.1 rfl (hb F.2.1 hd) rfl q) k
theorem Kx.lshr (K : Kx E y bytes ml rt l Z R n0 Q) {x : Int64} {y' : Int32} (hd : Dc bytes pc .lshr 1 pc') (k : Wk E h kc kn pc' ls (.long (x >>> (y' &&& 63).toInt64) :: st)) : Wk E h kc kn pc ls (.int y' :: .long x :: st) := by
  obtain ⟨hd, rfl⟩ := hd
  exact K.lift (fun p e s m args below meth c F T locs X eT t q => XS.lshr X.here F.1 rfl (hb F.2.1 hd) rfl q) k
theorem Kx.lushr (K : Kx E y bytes ml rt l Z R n0 Q) {x : Int64} {y' : Int32} (hd : Dc bytes pc .lushr 1 pc') (k : Wk E h kc kn pc' ls (.long ((x.toUInt64 >>> (y' &&& 63).toInt64.toUInt64).toInt64) :: st)) : Wk E h kc kn pc ls (.int y' :: .long x :: st) := by
  obtain ⟨hd, rfl⟩ := hd
  exact K.lift (fun p e s m args below meth c F T locs X eT t q => XS.lushr X.here F.1 rfl (hb F.2.1 hd) rfl q) k
theorem Kx.idiv (K : Kx E y bytes ml rt l Z R n0 Q) {x y' : Int32} (hd : Dc bytes pc .idiv 1 pc') (hy : y' ≠ 0) (k : Wk E h kc kn pc' ls (.int (x / y') :: st)) : Wk E h kc kn pc ls (.int y' :: .int x :: st) := by
  obtain ⟨hd, rfl⟩ := hd
  exact K.lift (fun p e s m args below meth c F T locs X eT t q => XS.idiv X.here F.1 rfl (hb F.2.1 hd) rfl hy q) k
theorem Kx.irem (K : Kx E y bytes ml rt l Z R n0 Q) {x y' : Int32} (hd : Dc bytes pc .irem 1 pc') (hy : y' ≠ 0) (k : Wk E h kc kn pc' ls (.int (x % y') :: st)) : Wk E h kc kn pc ls (.int y' :: .int x :: st) := by
  obtain ⟨hd, rfl⟩ := hd
  exact K.lift (fun p e s m args below meth c F T locs X eT t q => RoadKit.iremM X F.1 rfl (hb F.2.1 hd) rfl hy q) k
theorem Kx.ldiv (K : Kx E y bytes ml rt l Z R n0 Q) {x y' : Int64} (hd : Dc bytes pc .ldiv 1 pc') (hy : y' ≠ 0) (k : Wk E h kc kn pc' ls (.long (x / y') :: st)) : Wk E h kc kn pc ls (.long y' :: .long x :: st) := by
  obtain ⟨hd, rfl⟩ := hd
  exact K.lift (fun p e s m args below meth c F T locs X eT t q => XS.ldiv X.here F.1 rfl (hb F.2.1 hd) rfl hy q) k
theorem Kx.lrem (K : Kx E y bytes ml rt l Z R n0 Q) {x y' : Int64} (hd : Dc bytes pc .lrem 1 pc') (hy : y' ≠ 0) (k : Wk E h kc kn pc' ls (.long (x % y') :: st)) : Wk E h kc kn pc ls (.long y' :: .long x :: st) := by
  obtain ⟨hd, rfl⟩ := hd
  exact K.lift (fun p e s m args below meth c F T locs X eT t q => XS.lrem X.here F.1 rfl (hb F.2.1 hd) rfl hy (by rw [lrem_mod]; exact q)) k
theorem Kx.ineg (K : Kx E y bytes ml rt l Z R n0 Q) {x : Int32} (hd : Dc bytes pc .ineg 1 pc') (k : Wk E h kc kn pc' ls (.int (-x) :: st)) : Wk E h kc kn pc ls (.int x :: st) := by
  obtain ⟨hd, rfl⟩ := hd
  exact K.lift (fun p e s m args below meth c F T locs X eT t q => XS.ineg X.here F.1 rfl (hb F.2.1 hd) rfl q) k
theorem Kx.lneg (K : Kx E y bytes ml rt l Z R n0 Q) {x : Int64} (hd : Dc bytes pc .lneg 1 pc') (k : Wk E h kc kn pc' ls (.long (-x) :: st)) : Wk E h kc kn pc ls (.long x :: st) := by
  obtain ⟨hd, rfl⟩ := hd
  exact K.lift (fun p e s m args below meth c F T locs X eT t q => XS.lneg X.here F.1 rfl (hb F.2.1 hd) rfl q) k
theorem Kx.i2l (K : Kx E y bytes ml rt l Z R n0 Q) {x : Int32} (hd : Dc bytes pc .i2l 1 pc') (k : Wk E h kc kn pc' ls (.long (x.toInt64) :: st)) : Wk E h kc kn pc ls (.int x :: st) := by
  obtain ⟨hd, rfl⟩ := hd
  exact K.lift (fun p e s m args below meth c F T locs X eT t q => XS.i2l X.here F.1 rfl (hb F.2.1 hd) rfl q) k
theorem Kx.l2i (K : Kx E y bytes ml rt l Z R n0 Q) {x : Int64} (hd : Dc bytes pc .l2i 1 pc') (k : Wk E h kc kn pc' ls (.int (x.toInt32) :: st)) : Wk E h kc kn pc ls (.long x :: st) := by
  obtain ⟨hd, rfl⟩ := hd
  exact K.lift (fun p e s m args below meth c F T locs X eT t q => XS.l2i X.here F.1 rfl (hb F.2.1 hd) rfl q) k
theorem Kx.i2b (K : Kx E y bytes ml rt l Z R n0 Q) {x : Int32} (hd : Dc bytes pc .i2b 1 pc') (k : Wk E h kc kn pc' ls (.int (x.toInt8.toInt32) :: st)) : Wk E h kc kn pc ls (.int x :: st) := by
  obtain ⟨hd, rfl⟩ := hd
  exact K.lift (fun p e s m args below meth c F T locs X eT t q => XS.i2b X.here F.1 rfl (hb F.2.1 hd) rfl q) k
theorem Kx.i2c (K : Kx E y bytes ml rt l Z R n0 Q) {x : Int32} (hd : Dc bytes pc .i2c 1 pc') (k : Wk E h kc kn pc' ls (.int (x.toUInt32.toUInt16.toUInt32.toInt32) :: st)) : Wk E h kc kn pc ls (.int x :: st) := by
  obtain ⟨hd, rfl⟩ := hd
  exact K.lift (fun p e s m args below meth c F T locs X eT t q => XS.i2c X.here F.1 rfl (hb F.2.1 hd) rfl q) k
theorem Kx.i2s (K : Kx E y bytes ml rt l Z R n0 Q) {x : Int32} (hd : Dc bytes pc .i2s 1 pc') (k : Wk E h kc kn pc' ls (.int (x.toInt16.toInt32) :: st)) : Wk E h kc kn pc ls (.int x :: st) := by
  obtain ⟨hd, rfl⟩ := hd
  exact K.lift (fun p e s m args below meth c F T locs X eT t q => XS.i2s X.here F.1 rfl (hb F.2.1 hd) rfl q) k
theorem Kx.dup (K : Kx E y bytes ml rt l Z R n0 Q) {x : Value} (hd : Dc bytes pc .dup 1 pc') (hc : x.category = 1) (k : Wk E h kc kn pc' ls (x :: x :: st)) : Wk E h kc kn pc ls (x :: st) := by
  obtain ⟨hd, rfl⟩ := hd
  exact K.lift (fun p e s m args below meth c F T locs X eT t q => XS.dup X.here F.1 rfl (hb F.2.1 hd) rfl hc q) k
theorem Kx.pop (K : Kx E y bytes ml rt l Z R n0 Q) {x : Value} (hd : Dc bytes pc .pop 1 pc') (hc : x.category = 1) (k : Wk E h kc kn pc' ls st) : Wk E h kc kn pc ls (x :: st) := by
  obtain ⟨hd, rfl⟩ := hd
  exact K.lift (fun p e s m args below meth c F T locs X eT t q => XS.pop X.here F.1 rfl (hb F.2.1 hd) rfl hc q) k
theorem Kx.dup_x1 (K : Kx E y bytes ml rt l Z R n0 Q) {x x' : Value} (hd : Dc bytes pc .dup_x1 1 pc') (hc : x.category = 1) (hc' : x'.category = 1) (k : Wk E h kc kn pc' ls (x :: x' :: x :: st)) : Wk E h kc kn pc ls (x :: x' :: st) := by
  obtain ⟨hd, rfl⟩ := hd
  exact K.lift (fun p e s m args below meth c F T locs X eT t q => XS.dupX1 X.here F.1 rfl (hb F.2.1 hd) rfl hc hc' q) k
theorem Kx.dup2 (K : Kx E y bytes ml rt l Z R n0 Q) {x x' : Value} (hd : Dc bytes pc .dup2 1 pc') (hc : x.category = 1) (hc' : x'.category = 1) (k : Wk E h kc kn pc' ls (x :: x' :: x :: x' :: st)) : Wk E h kc kn pc ls (x :: x' :: st) := by
  obtain ⟨hd, rfl⟩ := hd
  exact K.lift (fun p e s m args below meth c F T locs X eT t q => Jvm.Free.XT.dup2 X.here F.1 rfl (hb F.2.1 hd) rfl hc hc' q) k
theorem Kx.ldcI (K : Kx E y bytes ml rt l Z R n0 Q) {i : Nat} {v : Int32} (hd : Dc bytes pc (.ldc i) 2 pc') (w : (Jvm.Cond.constant y.cls i v).before a0 Z = true) (k : Wk E h kc kn pc' ls (.int v :: st)) : Wk E h kc kn pc ls st := by
  obtain ⟨hd, rfl⟩ := hd
  exact K.lift (fun p e s m args below meth c F T locs X eT t q => X.ldcI F.1 F.2.2.2.2.2.2.1 (mvT F.2.2.2.2.2.1 w) rfl (hb F.2.1 hd) q) k
theorem Kx.ldc2J (K : Kx E y bytes ml rt l Z R n0 Q) {i : Nat} {v : Int64} (hd : Dc bytes pc (.ldc2_w i) 3 pc') (w : (Jvm.Cond.constantLong y.cls i v).before a0 Z = true) (k : Wk E h kc kn pc' ls (.long v :: st)) : Wk E h kc kn pc ls st := by
  obtain ⟨hd, rfl⟩ := hd
  exact K.lift (fun p e s m args below meth c F T locs X eT t q => X.ldc2J F.1 F.2.2.2.2.2.2.1 (mvT F.2.2.2.2.2.1 w) rfl (hb F.2.1 hd) q) k
theorem Kx.goto (K : Kx E y bytes ml rt l Z R n0 Q) {o : Int} (hd : Db bytes pc (.goto o) o pc1 pc2) (k : Wk E h kc kn pc2 ls st) : Wk E h kc kn pc ls st := by
  obtain ⟨hd, -, h0, h1⟩ := hd
  exact K.lift (fun p e s m args below meth c F T locs X eT t q => XS.goto X.here F.1 rfl rfl (hb F.2.1 hd) h0 h1 q) k
theorem Kx.ic_eq (K : Kx E y bytes ml rt l Z R n0 Q) {o : Int} {x y' : Int32} (hd : Db bytes pc (.if_icmp .eq o) o pc1 pc2) (k1 : x = y' → Wk E h kc kn pc2 ls st) (k2 : ¬ x = y' → Wk E h kc kn pc1 ls st) : Wk E h kc kn pc ls (.int y' :: .int x :: st) := by
  obtain ⟨hd, rfl, h0, h1⟩ := hd
  by_cases u : x = y'
  · exact K.lift (fun p e s m args below meth c F T locs X eT t q => XS.icmpYes X.here F.1 rfl rfl (hb F.2.1 hd) rfl (teq u).1 h0 h1 q) (k1 u)
  · exact K.lift (fun p e s m args below meth c F T locs X eT t q => XS.icmpNo X.here F.1 rfl (hb F.2.1 hd) rfl (feq u).1 q) (k2 u)
theorem Kx.if_eq (K : Kx E y bytes ml rt l Z R n0 Q) {o : Int} {x : Int32} (hd : Db bytes pc (.ifCond .eq o) o pc1 pc2) (k1 : x = 0 → Wk E h kc kn pc2 ls st) (k2 : ¬ x = 0 → Wk E h kc kn pc1 ls st) : Wk E h kc kn pc ls (.int x :: st) := by
  obtain ⟨hd, rfl, h0, h1⟩ := hd
  by_cases u : x = 0
  · exact K.lift (fun p e s m args below meth c F T locs X eT t q => XS.ifYes X.here F.1 rfl rfl (hb F.2.1 hd) rfl ((if0 _ _).trans (teq u).1) h0 h1 q) (k1 u)
  · exact K.lift (fun p e s m args below meth c F T locs X eT t q => XS.ifNo X.here F.1 rfl (hb F.2.1 hd) rfl ((if0 _ _).trans (feq u).1) q) (k2 u)
theorem Kx.ic_ne (K : Kx E y bytes ml rt l Z R n0 Q) {o : Int} {x y' : Int32} (hd : Db bytes pc (.if_icmp .ne o) o pc1 pc2) (k1 : x = y' → Wk E h kc kn pc1 ls st) (k2 : ¬ x = y' → Wk E h kc kn pc2 ls st) : Wk E h kc kn pc ls (.int y' :: .int x :: st) := by
  obtain ⟨hd, rfl, h0, h1⟩ := hd
  by_cases u : x = y'
  · exact K.lift (fun p e s m args below meth c F T locs X eT t q => XS.icmpNo X.here F.1 rfl (hb F.2.1 hd) rfl (teq u).2 q) (k1 u)
  · exact K.lift (fun p e s m args below meth c F T locs X eT t q => XS.icmpYes X.here F.1 rfl rfl (hb F.2.1 hd) rfl (feq u).2 h0 h1 q) (k2 u)
theorem Kx.if_ne (K : Kx E y bytes ml rt l Z R n0 Q) {o : Int} {x : Int32} (hd : Db bytes pc (.ifCond .ne o) o pc1 pc2) (k1 : x = 0 → Wk E h kc kn pc1 ls st) (k2 : ¬ x = 0 → Wk E h kc kn pc2 ls st) : Wk E h kc kn pc ls (.int x :: st) := by
  obtain ⟨hd, rfl, h0, h1⟩ := hd
  by_cases u : x = 0
  · exact K.lift (fun p e s m args below meth c F T locs X eT t q => XS.ifNo X.here F.1 rfl (hb F.2.1 hd) rfl ((if0 _ _).trans (teq u).2) q) (k1 u)
  · exact K.lift (fun p e s m args below meth c F T locs X eT t q => XS.ifYes X.here F.1 rfl rfl (hb F.2.1 hd) rfl ((if0 _ _).trans (feq u).2) h0 h1 q) (k2 u)
theorem Kx.ic_lt (K : Kx E y bytes ml rt l Z R n0 Q) {o : Int} {x y' : Int32} (hd : Db bytes pc (.if_icmp .lt o) o pc1 pc2) (k1 : x < y' → Wk E h kc kn pc2 ls st) (k2 : ¬ x < y' → Wk E h kc kn pc1 ls st) : Wk E h kc kn pc ls (.int y' :: .int x :: st) := by
  obtain ⟨hd, rfl, h0, h1⟩ := hd
  by_cases u : x < y'
  · exact K.lift (fun p e s m args below meth c F T locs X eT t q => XS.icmpYes X.here F.1 rfl rfl (hb F.2.1 hd) rfl (tlt u).1 h0 h1 q) (k1 u)
  · exact K.lift (fun p e s m args below meth c F T locs X eT t q => XS.icmpNo X.here F.1 rfl (hb F.2.1 hd) rfl (flt u).1 q) (k2 u)
theorem Kx.if_lt (K : Kx E y bytes ml rt l Z R n0 Q) {o : Int} {x : Int32} (hd : Db bytes pc (.ifCond .lt o) o pc1 pc2) (k1 : x < 0 → Wk E h kc kn pc2 ls st) (k2 : ¬ x < 0 → Wk E h kc kn pc1 ls st) : Wk E h kc kn pc ls (.int x :: st) := by
  obtain ⟨hd, rfl, h0, h1⟩ := hd
  by_cases u : x < 0
  · exact K.lift (fun p e s m args below meth c F T locs X eT t q => XS.ifYes X.here F.1 rfl rfl (hb F.2.1 hd) rfl ((if0 _ _).trans (tlt u).1) h0 h1 q) (k1 u)
  · exact K.lift (fun p e s m args below meth c F T locs X eT t q => XS.ifNo X.here F.1 rfl (hb F.2.1 hd) rfl ((if0 _ _).trans (flt u).1) q) (k2 u)
theorem Kx.ic_ge (K : Kx E y bytes ml rt l Z R n0 Q) {o : Int} {x y' : Int32} (hd : Db bytes pc (.if_icmp .ge o) o pc1 pc2) (k1 : x < y' → Wk E h kc kn pc1 ls st) (k2 : ¬ x < y' → Wk E h kc kn pc2 ls st) : Wk E h kc kn pc ls (.int y' :: .int x :: st) := by
  obtain ⟨hd, rfl, h0, h1⟩ := hd
  by_cases u : x < y'
  · exact K.lift (fun p e s m args below meth c F T locs X eT t q => XS.icmpNo X.here F.1 rfl (hb F.2.1 hd) rfl (tlt u).2.1 q) (k1 u)
  · exact K.lift (fun p e s m args below meth c F T locs X eT t q => XS.icmpYes X.here F.1 rfl rfl (hb F.2.1 hd) rfl (flt u).2.1 h0 h1 q) (k2 u)
theorem Kx.if_ge (K : Kx E y bytes ml rt l Z R n0 Q) {o : Int} {x : Int32} (hd : Db bytes pc (.ifCond .ge o) o pc1 pc2) (k1 : x < 0 → Wk E h kc kn pc1 ls st) (k2 : ¬ x < 0 → Wk E h kc kn pc2 ls st) : Wk E h kc kn pc ls (.int x :: st) := by
  obtain ⟨hd, rfl, h0, h1⟩ := hd
  by_cases u : x < 0
  · exact K.lift (fun p e s m args below meth c F T locs X eT t q => XS.ifNo X.here F.1 rfl (hb F.2.1 hd) rfl ((if0 _ _).trans (tlt u).2.1) q) (k1 u)
  · exact K.lift (fun p e s m args below meth c F T locs X eT t q => XS.ifYes X.here F.1 rfl rfl (hb F.2.1 hd) rfl ((if0 _ _).trans (flt u).2.1) h0 h1 q) (k2 u)
theorem Kx.ic_gt (K : Kx E y bytes ml rt l Z R n0 Q) {o : Int} {x y' : Int32} (hd : Db bytes pc (.if_icmp .gt o) o pc1 pc2) (k1 : y' < x → Wk E h kc kn pc2 ls st) (k2 : ¬ y' < x → Wk E h kc kn pc1 ls st) : Wk E h kc kn pc ls (.int y' :: .int x :: st) := by
  obtain ⟨hd, rfl, h0, h1⟩ := hd
  by_cases u : y' < x
  · exact K.lift (fun p e s m args below meth c F T locs X eT t q => XS.icmpYes X.here F.1 rfl rfl (hb F.2.1 hd) rfl (tlt u).2.2.1 h0 h1 q) (k1 u)
  · exact K.lift (fun p e s m args below meth c F T locs X eT t q => XS.icmpNo X.here F.1 rfl (hb F.2.1 hd) rfl (flt u).2.2.1 q) (k2 u)
theorem Kx.if_gt (K : Kx E y bytes ml rt l Z R n0 Q) {o : Int} {x : Int32} (hd : Db bytes pc (.ifCond .gt o) o pc1 pc2) (k1 : 0 < x → Wk E h kc kn pc2 ls st) (k2 : ¬ 0 < x → Wk E h kc kn pc1 ls st) : Wk E h kc kn pc ls (.int x :: st) := by
  obtain ⟨hd, rfl, h0, h1⟩ := hd
  by_cases u : 0 < x
  · exact K.lift (fun p e s m args below meth c F T locs X eT t q => XS.ifYes X.here F.1 rfl rfl (hb F.2.1 hd) rfl ((if0 _ _).trans (tlt u).2.2.1) h0 h1 q) (k1 u)
  · exact K.lift (fun p e s m args below meth c F T locs X eT t q => XS.ifNo X.here F.1 rfl (hb F.2.1 hd) rfl ((if0 _ _).trans (flt u).2.2.1) q) (k2 u)
theorem Kx.ic_le (K : Kx E y bytes ml rt l Z R n0 Q) {o : Int} {x y' : Int32} (hd : Db bytes pc (.if_icmp .le o) o pc1 pc2) (k1 : y' < x → Wk E h kc kn pc1 ls st) (k2 : ¬ y' < x → Wk E h kc kn pc2 ls st) : Wk E h kc kn pc ls (.int y' :: .int x :: st) := by
  obtain ⟨hd, rfl, h0, h1⟩ := hd
  by_cases u : y' < x
  · exact K.lift (fun p e s m args below meth c F T locs X eT t q => XS.icmpNo X.here F.1 rfl (hb F.2.1 hd) rfl (tlt u).2.2.2 q) (k1 u)
  · exact K.lift (fun p e s m args below meth c F T locs X eT t q => XS.icmpYes X.here F.1 rfl rfl (hb F.2.1 hd) rfl (flt u).2.2.2 h0 h1 q) (k2 u)
theorem Kx.if_le (K : Kx E y bytes ml rt l Z R n0 Q) {o : Int} {x : Int32} (hd : Db bytes pc (.ifCond .le o) o pc1 pc2) (k1 : 0 < x → Wk E h kc kn pc1 ls st) (k2 : ¬ 0 < x → Wk E h kc kn pc2 ls st) : Wk E h kc kn pc ls (.int x :: st) := by
  obtain ⟨hd, rfl, h0, h1⟩ := hd
  by_cases u : 0 < x
  · exact K.lift (fun p e s m args below meth c F T locs X eT t q => XS.ifNo X.here F.1 rfl (hb F.2.1 hd) rfl ((if0 _ _).trans (tlt u).2.2.2) q) (k1 u)
  · exact K.lift (fun p e s m args below meth c F T locs X eT t q => XS.ifYes X.here F.1 rfl rfl (hb F.2.1 hd) rfl ((if0 _ _).trans (flt u).2.2.2) h0 h1 q) (k2 u)
theorem Kx.lcmp (K : Kx E y bytes ml rt l Z R n0 Q) {x y' : Int64} (hd : Dc bytes pc .lcmp 1 pc') (k : Wk E h kc kn pc' ls (.int (lcmpW x y') :: st)) : Wk E h kc kn pc ls (.long y' :: .long x :: st) := by
  obtain ⟨hd, rfl⟩ := hd
  exact K.lift (fun p e s m args below meth c F T locs X eT t q => XS.lcmp X.here F.1 rfl (hb F.2.1 hd) rfl q) k
theorem Kx.lc_eq (K : Kx E y bytes ml rt l Z R n0 Q) {o : Int} {x y' : Int64} {pcm : Nat} (hd0 : Dc bytes pc .lcmp 1 pcm) (hd : Db bytes pcm (.ifCond .eq o) o pc1 pc2) (k1 : x = y' → Wk E h kc kn pc2 ls st) (k2 : ¬ x = y' → Wk E h kc kn pc1 ls st) : Wk E h kc kn pc ls (.long y' :: .long x :: st) :=
  K.lcmp hd0 (K.if_eq hd (fun u => k1 ((lw_eq x y').mp u)) (fun u => k2 (fun v => u ((lw_eq x y').mpr v))))
theorem Kx.lc_ne (K : Kx E y bytes ml rt l Z R n0 Q) {o : Int} {x y' : Int64} {pcm : Nat} (hd0 : Dc bytes pc .lcmp 1 pcm) (hd : Db bytes pcm (.ifCond .ne o) o pc1 pc2) (k1 : x = y' → Wk E h kc kn pc1 ls st) (k2 : ¬ x = y' → Wk E h kc kn pc2 ls st) : Wk E h kc kn pc ls (.long y' :: .long x :: st) :=
  K.lcmp hd0 (K.if_ne hd (fun u => k1 ((lw_eq x y').mp u)) (fun u => k2 (fun v => u ((lw_eq x y').mpr v))))
theorem Kx.lc_lt (K : Kx E y bytes ml rt l Z R n0 Q) {o : Int} {x y' : Int64} {pcm : Nat} (hd0 : Dc bytes pc .lcmp 1 pcm) (hd : Db bytes pcm (.ifCond .lt o) o pc1 pc2) (k1 : x < y' → Wk E h kc kn pc2 ls st) (k2 : ¬ x < y' → Wk E h kc kn pc1 ls st) : Wk E h kc kn pc ls (.long y' :: .long x :: st) :=
  K.lcmp hd0 (K.if_lt hd (fun u => k1 ((lw_lt x y').mp u)) (fun u => k2 (fun v => u ((lw_lt x y').mpr v))))
theorem Kx.lc_ge (K : Kx E y bytes ml rt l Z R n0 Q) {o : Int} {x y' : Int64} {pcm : Nat} (hd0 : Dc bytes pc .lcmp 1 pcm) (hd : Db bytes pcm (.ifCond .ge o) o pc1 pc2) (k1 : x < y' → Wk E h kc kn pc1 ls st) (k2 : ¬ x < y' → Wk E h kc kn pc2 ls st) : Wk E h kc kn pc ls (.long y' :: .long x :: st) :=
  K.lcmp hd0 (K.if_ge hd (fun u => k1 ((lw_lt x y').mp u)) (fun u => k2 (fun v => u ((lw_lt x y').mpr v))))
theorem Kx.lc_gt (K : Kx E y bytes ml rt l Z R n0 Q) {o : Int} {x y' : Int64} {pcm : Nat} (hd0 : Dc bytes pc .lcmp 1 pcm) (hd : Db bytes pcm (.ifCond .gt o) o pc1 pc2) (k1 : y' < x → Wk E h kc kn pc2 ls st) (k2 : ¬ y' < x → Wk E h kc kn pc1 ls st) : Wk E h kc kn pc ls (.long y' :: .long x :: st) :=
  K.lcmp hd0 (K.if_gt hd (fun u => k1 ((lw_gt x y').mp u)) (fun u => k2 (fun v => u ((lw_gt x y').mpr v))))
theorem Kx.lc_le (K : Kx E y bytes ml rt l Z R n0 Q) {o : Int} {x y' : Int64} {pcm : Nat} (hd0 : Dc bytes pc .lcmp 1 pcm) (hd : Db bytes pcm (.ifCond .le o) o pc1 pc2) (k1 : y' < x → Wk E h kc kn pc1 ls st) (k2 : ¬ y' < x → Wk E h kc kn pc2 ls st) : Wk E h kc kn pc ls (.long y' :: .long x :: st) :=
  K.lcmp hd0 (K.if_le hd (fun u => k1 ((lw_gt x y').mp u)) (fun u => k2 (fun v => u ((lw_gt x y').mpr v))))
theorem Kx.ifnull_null (K : Kx E y bytes ml rt l Z R n0 Q) {o : Int} (hd : Db bytes pc (.ifnull o) o pc1 pc2) (k : Wk E h kc kn pc2 ls st) : Wk E h kc kn pc ls (.null :: st) := by
  obtain ⟨hd, -, h0, h1⟩ := hd
  exact K.lift (fun p e s m args below meth c F T locs X eT t q => XS.ifnullYes X.here F.1 rfl rfl (hb F.2.1 hd) rfl h0 h1 q) k
theorem Kx.ifnull_ref (K : Kx E y bytes ml rt l Z R n0 Q) {o : Int} (hd : Db bytes pc (.ifnull o) o pc1 pc2) (k : Wk E h kc kn pc1 ls st) : Wk E h kc kn pc ls (.ref a :: st) := by
  obtain ⟨hd, rfl, h0, h1⟩ := hd
  exact K.lift (fun p e s m args below meth c F T locs X eT t q => XS.ifnullNo X.here F.1 rfl (hb F.2.1 hd) rfl q) k
theorem Kx.ifnonnull_ref (K : Kx E y bytes ml rt l Z R n0 Q) {o : Int} (hd : Db bytes pc (.ifnonnull o) o pc1 pc2) (k : Wk E h kc kn pc2 ls st) : Wk E h kc kn pc ls (.ref a :: st) := by
  obtain ⟨hd, -, h0, h1⟩ := hd
  exact K.lift (fun p e s m args below meth c F T locs X eT t q => XS.ifnonnullYes X.here F.1 rfl rfl (hb F.2.1 hd) rfl h0 h1 q) k
theorem Kx.ifnonnull_null (K : Kx E y bytes ml rt l Z R n0 Q) {o : Int} (hd : Db bytes pc (.ifnonnull o) o pc1 pc2) (k : Wk E h kc kn pc1 ls st) : Wk E h kc kn pc ls (.null :: st) := by
  obtain ⟨hd, rfl, h0, h1⟩ := hd
  exact K.lift (fun p e s m args below meth c F T locs X eT t q => XS.ifnonnullNo X.here F.1 rfl (hb F.2.1 hd) rfl q) k
theorem Kx.ldcF (K : Kx E y bytes ml rt l Z R n0 Q) {i : Nat} {v : UInt32} (hd : Dc bytes pc (.ldc i) 2 pc') (w : (Jvm.Cond.constantFloat y.cls i v).before a0 Z = true) (k : Wk E h kc kn pc' ls (.float v :: st)) : Wk E h kc kn pc ls st := by
  obtain ⟨hd, rfl⟩ := hd
  exact K.lift (fun p e s m args below meth c F T locs X eT t q => X.ldcFloatC F.1 F.2.2.2.2.2.2.1 (mvT F.2.2.2.2.2.1 w) (g := mkF m pc ls st) rfl (hb F.2.1 hd) t q) k
/-- an array: its kind, its length, what each place holds -/
def Ia (Z : State) (h : Heap) (a : Addr) (ty : FieldType) (N : Int32) (f : Int32 → Value) : Prop := ∃ c : Cell, Arr Z h a c ty ∧ c.slots.size = N.toNatClampNeg ∧ ¬ N < 0 ∧ ∀ j : Int32, ¬ j < 0 → j < N → c.slots[j.toNatClampNeg]? = some (f j)
theorem Ia.lt {ty : FieldType} {N : Int32} {f : Int32 → Value} (F : Ia Z h a ty N f) : a < h.size := by obtain ⟨c, A, -⟩ := F; exact A.lt
theorem Ia.nn {ty : FieldType} {N : Int32} {f : Int32 → Value} (F : Ia Z h a ty N f) : ¬ N < 0 := by obtain ⟨c, -, -, q, -⟩ := F; exact q
theorem Ia.ext {ty : FieldType} {N : Int32} {f : Int32 → Value} (F : Ia Z h a ty N f) (X : Ext h h') : Ia Z h' a ty N f := by obtain ⟨c, A, r⟩ := F; exact ⟨c, A.ext X, r⟩
theorem Ia.other {ty : FieldType} {N : Int32} {f : Int32 → Value} {sl : Nat} {v : Value} (F : Ia Z h b ty N f) (W : Wr h h' a sl v) (q : b ≠ a) : Ia Z h' b ty N f := by obtain ⟨c, A, r⟩ := F; exact ⟨c, A.other W q, r⟩
theorem Ia.keep {ty : FieldType} {N : Int32} {f : Int32 → Value} {ws : List Addr} (F : Ia Z h a ty N f) (K : Keep h h' ws) (q : a ∉ ws) : Ia Z h' a ty N f := by obtain ⟨c, A, r⟩ := F; exact ⟨c, ⟨K.2.1 a c A.1 q, A.2⟩, r⟩
theorem Ia.congr {ty : FieldType} {N : Int32} {f g : Int32 → Value} (F : Ia Z h a ty N f) (q : ∀ j : Int32, ¬ j < 0 → j < N → f j = g j) : Ia Z h a ty N g := by
  obtain ⟨c, A, r1, r2, r3⟩ := F
  exact ⟨c, A, r1, r2, fun j h1 h2 => by rw [r3 j h1 h2, q j h1 h2]⟩
theorem Ia.set {ty : FieldType} {N j : Int32} {f : Int32 → Value} {v : Value} (F : Ia Z h a ty N f) (W : Wr h h' a j.toNatClampNeg v) (hj : ¬ j < 0) : Ia Z h' a ty N (fun k => if k = j then v else f k) := by
  obtain ⟨c, A, S, M, G⟩ := F
  refine ⟨_, A.same W, by rw [sz_set]; exact S, M, fun k h1 h2 => ?_⟩
  show _ = some (if k = j then v else f k)
  by_cases u : k = j
  · rw [if_pos u]; exact get_hit (inb_of S (u ▸ ⟨h1, h2⟩)) u
  · rw [if_neg u, get_miss hj h1 u]; exact G k h1 h2
theorem Ia.new {ty : FieldType} {N : Int32} {k : ClassId} (A : Arr Z h a (newA k ty N) ty) (q : ¬ N < 0) : Ia Z h a ty N (fun _ => defaultValue ty) :=
  ⟨_, A, sz_new _ _ _, q, fun j h1 h2 => get_new (by have := inb_of (sz_new k ty N) ⟨h1, h2⟩; rw [sz_new] at this; exact this)⟩
theorem Kx.getF (K : Kx E y bytes ml rt l Z R n0 Q) {i : Nat} {O n d : String} {v : Value} (hd : Dc bytes pc (.getfield i) 3 pc') (w : (Jvm.Cond.fieldLink y.cls i O n d).before a0 Z = true) (F : Fld Z h a O n d v) (k : Wk E h kc kn pc' ls (v :: st)) : Wk E h kc kn pc ls (.ref a :: st) := by
  obtain ⟨hd, rfl⟩ := hd
  refine K.move (fun p e s m args below meth c G T locs X eT N => ?_)
  obtain ⟨g1, g2, g3, g4, g5, hZ, hown, g8, g9⟩ := G
  have hn : n0 ≤ h.size := by rw [← eT]; exact Nat.le_trans g9 X.same.2.1
  obtain ⟨T', X', e', q'⟩ := RoadKit.getF X g1 hZ hown (host := "") (Or.inl w) Via.refl eT F (g := mkF m pc ls (.ref a :: st)) rfl rfl (hb g2 hd)
  exact ⟨T', _, _, _, _, _, _, _, X', e', N, (Nat.le_refl _), k, fun t q => q' t q⟩
theorem Kx.putF (K : Kx E y bytes ml rt l Z R n0 Q) {i kk : Nat} {O n d C : String} {ty : FieldType} {v old : Value} (hd : Dc bytes pc (.putfield i) 3 pc') (w : (Jvm.Cond.fieldLink y.cls i O n d).before a0 Z = true) (F : Fld Z h a O n d old) (X0 : Exa Z h a C)
    (L : (Jvm.Cond.lays C O n d).before a0 Z = true ∨ ((Jvm.Cond.laysFinal C O n d).before a0 Z = true ∧ y.cls = O ∧ y.name = "<init>")) (wi : (Jvm.Cond.instantiable C kk).before a0 Z = true) (ht : parseFieldDescriptor d = some ty) (hna : narrow ty v = v) (hf : fits ty v = true) (ge : n0 ≤ a)
    (k : ∀ h', Wr h h' a (RoadKit.slotOf Z O n d) v → Wk E h' kc kn pc' ls st) : Wk E h kc kn pc ls (v :: .ref a :: st) := by
  obtain ⟨hd, rfl⟩ := hd
  refine K.move (fun p e s m args below meth c G T locs X eT N => ?_)
  obtain ⟨g1, g2, g3, g4, g5, hZ, hown, g8, g9⟩ := G
  have hn : n0 ≤ h.size := by rw [← eT]; exact Nat.le_trans g9 X.same.2.1
  obtain ⟨T', h', X', e', W, q'⟩ := RoadKit.putF X g1 hZ hown (host := "") (Or.inl w) Via.refl eT F X0 (L.imp id fun u => ⟨u.1, u.2.1, g8.trans u.2.2⟩) wi ht hna hf (g := mkF m pc ls (v :: .ref a :: st)) rfl rfl (hb g2 hd)
  exact ⟨T', _, _, _, _, _, _, _, X', e', (Fr.snoc X' N ge), (Nat.le_of_eq W.size.symm), k h' W, fun t q => q' t q⟩
theorem Kx.newO (K : Kx E y bytes ml rt l Z R n0 Q) {i sz : Nat} {C : String} (kc' kn' : Nat) (hd : Dc bytes pc (.new i) 3 pc') (w : (Jvm.Cond.classLink y.cls i C).before a0 Z = true) (wi : (Jvm.Cond.instantiable C sz).before a0 Z = true) (wz : (Jvm.Cond.initialized C).before a0 Z = true)
    (hk : kc + 1 = kc') (hk2 : kn + sz = kn') (hc : kc' ≤ R.cells) (hl : kn' ≤ R.slots)
    (k : ∀ h' a, a = h.size → n0 ≤ a → Ext h h' → Exa Z h' a C → (∀ {O nm d : String} {ty : FieldType}, Laid Z a0 C O nm d → parseFieldDescriptor d = some ty → Fld Z h' a O nm d (defaultValue ty)) → Wk E h' kc' kn' pc' ls (.ref a :: st)) : Wk E h kc kn pc ls st := by
  obtain ⟨hd, rfl⟩ := hd
  refine K.move (fun p e s m args below meth c G T locs X eT N => ?_)
  obtain ⟨g1, g2, g3, g4, g5, hZ, hown, g8, g9⟩ := G
  have hn : n0 ≤ h.size := by rw [← eT]; exact Nat.le_trans g9 X.same.2.1
  subst hk hk2
  obtain ⟨T', h', X', e', E', A', D', -, q'⟩ := RoadKit.newO X g1 hZ hown w wi wz eT (g := mkF m pc ls st) rfl (hb g2 hd) hc hl
  exact ⟨T', _, _, _, _, _, _, _, X', e', N, E'.1, k h' h.size rfl hn E' A' D', fun t q => q' t q⟩
theorem Kx.newP (K : Kx E y bytes ml rt l Z R n0 Q) {aty : ArrayType} {N : Int32} {ty : FieldType} {dv : Value} (cap kc' kn' : Nat) (hd : Dc bytes pc (.newarray aty) 2 pc') (w : (Jvm.Cond.arrayClass ty).before a0 Z = true) (hty : newarray.typeOf aty = ty) (hdv : defaultValue ty = dv) (hN : ¬ N < 0) (hcap : N.toNatClampNeg ≤ cap) (h8 : cap * 8 ≤ 536870912)
    (hk : kc + 1 = kc') (hk2 : kn + cap = kn') (hc : kc' ≤ R.cells) (hl : kn' ≤ R.slots)
    (k : ∀ h' a, a = h.size → n0 ≤ a → Ext h h' → Ia Z h' a ty N (fun _ => dv) → Wk E h' kc' kn' pc' ls (.ref a :: st)) : Wk E h kc kn pc ls (.int N :: st) := by
  obtain ⟨hd, rfl⟩ := hd
  refine K.move (fun p e s m args below meth c G T locs X eT N' => ?_)
  obtain ⟨g1, g2, g3, g4, g5, hZ, hown, g8, g9⟩ := G
  have hn : n0 ≤ h.size := by rw [← eT]; exact Nat.le_trans g9 X.same.2.1
  subst hk hk2 hty hdv
  obtain ⟨T', h', cA, X', e', E', A', q'⟩ := RoadKit.newP X g1 hZ w eT (g := mkF m pc ls (.int N :: st)) rfl (hb g2 hd) rfl hN hcap h8 hc hl
  exact ⟨T', _, _, _, _, _, _, _, X', e', N', E'.1, k h' h.size rfl hn E' (Ia.new A' hN), fun t q => q' t q⟩
theorem Kx.newR (K : Kx E y bytes ml rt l Z R n0 Q) {i : Nat} {N : Int32} {C : String} (cap kc' kn' : Nat) (hd : Dc bytes pc (.anewarray i) 3 pc') (w1 : (Jvm.Cond.classLink y.cls i C).before a0 Z = true) (w2 : (Jvm.Cond.arrayOver (.object C)).before a0 Z = true) (hN : ¬ N < 0) (hcap : N.toNatClampNeg ≤ cap) (h8 : cap * 8 ≤ 536870912)
    (hk : kc + 1 = kc') (hk2 : kn + cap = kn') (hc : kc' ≤ R.cells) (hl : kn' ≤ R.slots)
    (k : ∀ h' a, a = h.size → n0 ≤ a → Ext h h' → Ia Z h' a (.object C) N (fun _ => .null) → Wk E h' kc' kn' pc' ls (.ref a :: st)) : Wk E h kc kn pc ls (.int N :: st) := by
  obtain ⟨hd, rfl⟩ := hd
  refine K.move (fun p e s m args below meth c G T locs X eT N' => ?_)
  obtain ⟨g1, g2, g3, g4, g5, hZ, hown, g8, g9⟩ := G
  have hn : n0 ≤ h.size := by rw [← eT]; exact Nat.le_trans g9 X.same.2.1
  subst hk hk2
  obtain ⟨T', h', cA, X', e', E', A', O', q'⟩ := RoadKit.newR X g1 hZ hown w1 w2 eT (g := mkF m pc ls (.int N :: st)) rfl (hb g2 hd) rfl hN hcap h8 hc hl
  exact ⟨T', _, _, _, _, _, _, _, X', e', N', E'.1, k h' h.size rfl hn E' (Ia.new A' hN), fun t q => q' t q⟩
theorem Kx.newRA (K : Kx E y bytes ml rt l Z R n0 Q) {i : Nat} {N : Int32} {C : String} {ty : FieldType} (cap kc' kn' : Nat) (hd : Dc bytes pc (.anewarray i) 3 pc') (hC : (FieldType.array ty).toString = C) (w1 : (Jvm.Cond.classLink y.cls i C).before a0 Z = true) (w2 : (Jvm.Cond.arrayOver (.array ty)).before a0 Z = true) (hN : ¬ N < 0) (hcap : N.toNatClampNeg ≤ cap) (h8 : cap * 8 ≤ 536870912)
    (hk : kc + 1 = kc') (hk2 : kn + cap = kn') (hc : kc' ≤ R.cells) (hl : kn' ≤ R.slots)
    (k : ∀ h' a, a = h.size → n0 ≤ a → Ext h h' → Ia Z h' a (.array ty) N (fun _ => .null) → Wk E h' kc' kn' pc' ls (.ref a :: st)) : Wk E h kc kn pc ls (.int N :: st) := by
  obtain ⟨hd, rfl⟩ := hd
  refine K.move (fun p e s m args below meth c G T locs X eT N' => ?_)
  obtain ⟨g1, g2, g3, g4, g5, hZ, hown, g8, g9⟩ := G
  have hn : n0 ≤ h.size := by rw [← eT]; exact Nat.le_trans g9 X.same.2.1
  subst hk hk2
  obtain ⟨T', h', cA, X', e', E', A', -, O', q'⟩ := RoadKit.newRA X g1 hZ hown hC w1 w2 eT (g := mkF m pc ls (.int N :: st)) rfl (hb g2 hd) rfl hN hcap h8 hc hl rfl
  exact ⟨T', _, _, _, _, _, _, _, X', e', N', E'.1, k h' h.size rfl hn E' (Ia.new A' hN), fun t q => q' t q⟩
theorem Kx.arraylength (K : Kx E y bytes ml rt l Z R n0 Q) {ty : FieldType} {N : Int32} {f : Int32 → Value} (hd : Dc bytes pc .arraylength 1 pc') (A : Ia Z h a ty N f) (k : Wk E h kc kn pc' ls (.int N :: st)) : Wk E h kc kn pc ls (.ref a :: st) := by
  obtain ⟨hd, rfl⟩ := hd
  obtain ⟨cl, A, S, M, G⟩ := A
  refine K.lift (fun p e s m args below meth c F T locs X eT t q => ?_) k
  exact X.arraylength F.1 (by rw [eT]; exact A.1) (State.isArrayOf_alike F.2.2.2.2.2.1.alike A.2.1) (g := mkF m pc ls (.ref a :: st)) rfl rfl (hb F.2.1 hd) t (by rw [len_of S M]; exact q)
theorem Kx.iaload (K : Kx E y bytes ml rt l Z R n0 Q) {N j : Int32} {f : Int32 → Value} {v : Value} (hd : Dc bytes pc .iaload 1 pc') (A : Ia Z h a .int N f) (h1 : ¬ j < 0) (h2 : j < N) (hv : f j = v) (k : Wk E h kc kn pc' ls (v :: st)) : Wk E h kc kn pc ls (.int j :: .ref a :: st) := by
  obtain ⟨hd, rfl⟩ := hd
  obtain ⟨cl, A, S, M, G⟩ := A
  refine K.lift (fun p e s m args below meth c F T locs X eT t q => ?_) k
  exact X.iaload F.1 (by rw [eT]; exact A.1) (State.isArrayOf_alike F.2.2.2.2.2.1.alike A.2.1) A.2.2 (inb_of S ⟨h1, h2⟩) (hv ▸ G j h1 h2) (g := mkF m pc ls (.int j :: .ref a :: st)) rfl rfl (hb F.2.1 hd) t q
theorem Kx.baload (K : Kx E y bytes ml rt l Z R n0 Q) {N j : Int32} {f : Int32 → Value} {v : Value} (hd : Dc bytes pc .baload 1 pc') (A : Ia Z h a .byte N f) (h1 : ¬ j < 0) (h2 : j < N) (hv : f j = v) (k : Wk E h kc kn pc' ls (v :: st)) : Wk E h kc kn pc ls (.int j :: .ref a :: st) := by
  obtain ⟨hd, rfl⟩ := hd
  obtain ⟨cl, A, S, M, G⟩ := A
  refine K.lift (fun p e s m args below meth c F T locs X eT t q => ?_) k
  exact X.baloadBytes F.1 (by rw [eT]; exact A.1) (State.isArrayOf_alike F.2.2.2.2.2.1.alike A.2.1) A.2.2 (inb_of S ⟨h1, h2⟩) (hv ▸ G j h1 h2) (g := mkF m pc ls (.int j :: .ref a :: st)) rfl rfl (hb F.2.1 hd) t q
theorem Kx.caload (K : Kx E y bytes ml rt l Z R n0 Q) {N j : Int32} {f : Int32 → Value} {v : Value} (hd : Dc bytes pc .caload 1 pc') (A : Ia Z h a .char N f) (h1 : ¬ j < 0) (h2 : j < N) (hv : f j = v) (k : Wk E h kc kn pc' ls (v :: st)) : Wk E h kc kn pc ls (.int j :: .ref a :: st) := by
  obtain ⟨hd, rfl⟩ := hd
  obtain ⟨cl, A, S, M, G⟩ := A
  refine K.lift (fun p e s m args below meth c F T locs X eT t q => ?_) k
  exact X.caload F.1 (by rw [eT]; exact A.1) (State.isArrayOf_alike F.2.2.2.2.2.1.alike A.2.1) A.2.2 (inb_of S ⟨h1, h2⟩) (hv ▸ G j h1 h2) (g := mkF m pc ls (.int j :: .ref a :: st)) rfl rfl (hb F.2.1 hd) t q
theorem Kx.aaload (K : Kx E y bytes ml rt l Z R n0 Q) {N j : Int32} {f : Int32 → Value} {ty : FieldType} {v : Value} (hd : Dc bytes pc .aaload 1 pc') (A : Ia Z h a ty N f) (hty : ty.isReference = true) (h1 : ¬ j < 0) (h2 : j < N) (hv : f j = v) (k : Wk E h kc kn pc' ls (v :: st)) : Wk E h kc kn pc ls (.int j :: .ref a :: st) := by
  obtain ⟨hd, rfl⟩ := hd
  obtain ⟨cl, A, S, M, G⟩ := A
  refine K.lift (fun p e s m args below meth c F T locs X eT t q => ?_) k
  exact X.aaload F.1 (by rw [eT]; exact A.1) (State.isArrayOf_alike F.2.2.2.2.2.1.alike A.2.1) hty A.2.2 (inb_of S ⟨h1, h2⟩) (hv ▸ G j h1 h2) (g := mkF m pc ls (.int j :: .ref a :: st)) rfl rfl (hb F.2.1 hd) t q
theorem Kx.iastore (K : Kx E y bytes ml rt l Z R n0 Q) {N j x : Int32} {f : Int32 → Value} (hd : Dc bytes pc .iastore 1 pc') (A : Ia Z h a .int N f) (h1 : ¬ j < 0) (h2 : j < N) (ge : n0 ≤ a)
    (k : ∀ h', Wr h h' a j.toNatClampNeg (.int x) → Ia Z h' a .int N (fun k => if k = j then .int x else f k) → Wk E h' kc kn pc' ls st) : Wk E h kc kn pc ls (.int x :: .int j :: .ref a :: st) := by
  obtain ⟨hd, rfl⟩ := hd
  refine K.move (fun p e s m args below meth c G T locs X eT N' => ?_)
  obtain ⟨g1, g2, g3, g4, g5, hZ, hown, g8, g9⟩ := G
  have hn : n0 ≤ h.size := by rw [← eT]; exact Nat.le_trans g9 X.same.2.1
  obtain ⟨cl, Ar, S, M, G⟩ := id A
  obtain ⟨T', h', X', e', W, q'⟩ := RoadKit.stI X g1 hZ eT Ar (inb_of S ⟨h1, h2⟩) (g := mkF m pc ls (.int x :: .int j :: .ref a :: st)) rfl rfl (hb g2 hd)
  exact ⟨T', _, _, _, _, _, _, _, X', e', (Fr.snoc X' N' ge), (Nat.le_of_eq W.size.symm), k h' W (A.set W h1), fun t q => q' t q⟩
theorem Kx.bastore (K : Kx E y bytes ml rt l Z R n0 Q) {N j x : Int32} {f : Int32 → Value} (hd : Dc bytes pc .bastore 1 pc') (A : Ia Z h a .byte N f) (h1 : ¬ j < 0) (h2 : j < N) (ge : n0 ≤ a)
    (k : ∀ h', Wr h h' a j.toNatClampNeg (.int x.toInt8.toInt32) → Ia Z h' a .byte N (fun k => if k = j then .int x.toInt8.toInt32 else f k) → Wk E h' kc kn pc' ls st) : Wk E h kc kn pc ls (.int x :: .int j :: .ref a :: st) := by
  obtain ⟨hd, rfl⟩ := hd
  refine K.move (fun p e s m args below meth c G T locs X eT N' => ?_)
  obtain ⟨g1, g2, g3, g4, g5, hZ, hown, g8, g9⟩ := G
  have hn : n0 ≤ h.size := by rw [← eT]; exact Nat.le_trans g9 X.same.2.1
  obtain ⟨cl, Ar, S, M, G⟩ := id A
  obtain ⟨T', h', X', e', W, q'⟩ := RoadKit.stB X g1 hZ eT Ar (inb_of S ⟨h1, h2⟩) (g := mkF m pc ls (.int x :: .int j :: .ref a :: st)) rfl rfl (hb g2 hd)
  exact ⟨T', _, _, _, _, _, _, _, X', e', (Fr.snoc X' N' ge), (Nat.le_of_eq W.size.symm), k h' W (A.set W h1), fun t q => q' t q⟩
theorem Kx.castore (K : Kx E y bytes ml rt l Z R n0 Q) {N j x : Int32} {f : Int32 → Value} (hd : Dc bytes pc .castore 1 pc') (A : Ia Z h a .char N f) (h1 : ¬ j < 0) (h2 : j < N) (ge : n0 ≤ a)
    (k : ∀ h', Wr h h' a j.toNatClampNeg (.int x.toUInt32.toUInt16.toUInt32.toInt32) → Ia Z h' a .char N (fun k => if k = j then .int x.toUInt32.toUInt16.toUInt32.toInt32 else f k) → Wk E h' kc kn pc' ls st) : Wk E h kc kn pc ls (.int x :: .int j :: .ref a :: st) := by
  obtain ⟨hd, rfl⟩ := hd
  refine K.move (fun p e s m args below meth c G T locs X eT N' => ?_)
  obtain ⟨g1, g2, g3, g4, g5, hZ, hown, g8, g9⟩ := G
  have hn : n0 ≤ h.size := by rw [← eT]; exact Nat.le_trans g9 X.same.2.1
  obtain ⟨cl, Ar, S, M, G⟩ := id A
  obtain ⟨T', h', X', e', W, q'⟩ := RoadKit.stC X g1 hZ eT Ar (inb_of S ⟨h1, h2⟩) (g := mkF m pc ls (.int x :: .int j :: .ref a :: st)) rfl rfl (hb g2 hd)
  exact ⟨T', _, _, _, _, _, _, _, X', e', (Fr.snoc X' N' ge), (Nat.le_of_eq W.size.symm), k h' W (A.set W h1), fun t q => q' t q⟩
theorem Kx.getS (K : Kx E y bytes ml rt l Z R n0 Q) {i : Nat} {O n d : String} {v : Value} (hd : Dc bytes pc (.getstatic i) 3 pc') (w : (Jvm.Cond.fieldLink y.cls i O n d).before a0 Z = true) (F : Sta Z h O n d v) (k : Wk E h kc kn pc' ls (v :: st)) : Wk E h kc kn pc ls st := by
  obtain ⟨hd, rfl⟩ := hd
  refine K.move (fun p e s m args below meth c G T locs X eT N => ?_)
  obtain ⟨g1, g2, g3, g4, g5, hZ, hown, g8, g9⟩ := G
  have hn : n0 ≤ h.size := by rw [← eT]; exact Nat.le_trans g9 X.same.2.1
  obtain ⟨T', X', e', q'⟩ := RoadKit.getS (host := "") X g1 hZ hown w Via.refl eT F (g := mkF m pc ls st) rfl (hb g2 hd)
  exact ⟨T', _, _, _, _, _, _, _, X', e', N, (Nat.le_refl _), k, fun t q => q' t q⟩
theorem Kx.castY (K : Kx E y bytes ml rt l Z R n0 Q) {i : Nat} {C : String} (hd : Dc bytes pc (.checkcast i) 3 pc') (w : (Jvm.Cond.classLink y.cls i C).before a0 Z = true) (F : Ins Z h a C true) (k : Wk E h kc kn pc' ls (.ref a :: st)) : Wk E h kc kn pc ls (.ref a :: st) := by
  obtain ⟨hd, rfl⟩ := hd
  refine K.move (fun p e s m args below meth c G T locs X eT N => ?_)
  obtain ⟨g1, g2, g3, g4, g5, hZ, hown, g8, g9⟩ := G
  obtain ⟨T', X', e', q'⟩ := RoadKit.castY X g1 hZ hown w eT F (g := mkF m pc ls (.ref a :: st)) rfl rfl (hb g2 hd)
  exact ⟨T', _, _, _, _, _, _, _, X', e', N, (Nat.le_refl _), k, fun t q => q' t q⟩
theorem Kx.instY (K : Kx E y bytes ml rt l Z R n0 Q) {i : Nat} {C : String} (hd : Dc bytes pc (.instanceof i) 3 pc') (w : (Jvm.Cond.classLink y.cls i C).before a0 Z = true) (F : Ins Z h a C true) (k : Wk E h kc kn pc' ls (.int 1 :: st)) : Wk E h kc kn pc ls (.ref a :: st) := by
  obtain ⟨hd, rfl⟩ := hd
  refine K.move (fun p e s m args below meth c G T locs X eT N => ?_)
  obtain ⟨g1, g2, g3, g4, g5, hZ, hown, g8, g9⟩ := G
  obtain ⟨T', X', e', q'⟩ := RoadKit.instY X g1 hZ hown w eT F (g := mkF m pc ls (.ref a :: st)) rfl rfl (hb g2 hd)
  exact ⟨T', _, _, _, _, _, _, _, X', e', N, (Nat.le_refl _), k, fun t q => q' t q⟩
theorem Kx.instNo (K : Kx E y bytes ml rt l Z R n0 Q) {i : Nat} {C D : String} (hd : Dc bytes pc (.instanceof i) 3 pc') (w : (Jvm.Cond.classLink y.cls i C).before a0 Z = true) (X0 : Exa Z h a D) (F : ∃ c t, Z.vm.findClass D = some c ∧ Z.vm.findClass C = some t ∧ Z.vm.assignable c t = false) (k : Wk E h kc kn pc' ls (.int 0 :: st)) : Wk E h kc kn pc ls (.ref a :: st) := by
  obtain ⟨hd, rfl⟩ := hd
  refine K.move (fun p e s m args below meth c G T locs X eT N => ?_)
  obtain ⟨g1, g2, g3, g4, g5, hZ, hown, g8, g9⟩ := G
  obtain ⟨T', X', e', q'⟩ := RoadKit.instNo X g1 hZ hown w eT X0 F (g := mkF m pc ls (.ref a :: st)) rfl rfl (hb g2 hd)
  exact ⟨T', _, _, _, _, _, _, _, X', e', N, (Nat.le_refl _), k, fun t q => q' t q⟩
theorem Kx.instNull (K : Kx E y bytes ml rt l Z R n0 Q) {i : Nat} (hd : Dc bytes pc (.instanceof i) 3 pc') (k : Wk E h kc kn pc' ls (.int 0 :: st)) : Wk E h kc kn pc ls (.null :: st) := by
  obtain ⟨hd, rfl⟩ := hd
  exact K.lift (fun p e s m args below meth c F T locs X eT t q => X.instanceofNull F.1 (g := mkF m pc ls (.null :: st)) rfl rfl (hb F.2.1 hd) t q) k
def Pl (h : Heap) (x : Addr) : Prop := ∃ c : Cell, h[x]? = some c ∧ c.vm.isStatics = false
theorem plE {C : String} (F : Exa Z h a C) : Pl h a := by obtain ⟨c, _, h1, -, -, h4, -⟩ := F; exact ⟨c, h1, h4⟩
theorem plA {ty : FieldType} {N : Int32} {f : Int32 → Value} (F : Ia Z h a ty N f) : Pl h a := by obtain ⟨c, A, -⟩ := F; exact ⟨c, A.1, A.plain⟩
theorem staK {C n d : String} {v : Value} {ws : List Addr} (F : Sta Z h C n d v) (K : Keep h h' ws) (q : ∀ x ∈ ws, Pl h x) : Sta Z h' C n d v := by
  obtain ⟨cf, i, k, f, sa, cell, h1, h2, h3, h4, h5, h6, h7⟩ := F
  refine ⟨cf, i, k, f, sa, cell, h1, h2, h3, h4, K.2.1 sa cell h5 (fun u => ?_), h6, h7⟩
  obtain ⟨c, e1, e2⟩ := q sa u
  cases h5.symm.trans e1
  rw [e2] at h6; cases h6
theorem Kx.ac_eq (K : Kx E y bytes ml rt l Z R n0 Q) {o : Int} (hd : Db bytes pc (.if_acmp .eq o) o pc1 pc2) (k1 : a = b → Wk E h kc kn pc2 ls st) (k2 : ¬ a = b → Wk E h kc kn pc1 ls st) : Wk E h kc kn pc ls (.ref b :: .ref a :: st) := by
  obtain ⟨hd, rfl, h0, h1⟩ := hd
  by_cases u : a = b
  · exact K.lift (fun p e s m args below meth c F T locs X eT t q => RoadKit.acmp (g := mkF m pc ls (.ref b :: .ref a :: st)) X F.1 rfl (x := .ref a) (y := .ref b) rfl rfl (same := true) rfl (hb F.2.1 hd) rfl (by simp [u]) h0 (by simp [acV, h1]) q) (k1 u)
  · exact K.lift (fun p e s m args below meth c F T locs X eT t q => RoadKit.acmp (g := mkF m pc ls (.ref b :: .ref a :: st)) X F.1 rfl (x := .ref a) (y := .ref b) rfl rfl (same := false) rfl (hb F.2.1 hd) rfl (by simp [u]) h0 (by simp [acV]) q) (k2 u)
theorem Kx.ac_ne (K : Kx E y bytes ml rt l Z R n0 Q) {o : Int} (hd : Db bytes pc (.if_acmp .ne o) o pc1 pc2) (k1 : a = b → Wk E h kc kn pc1 ls st) (k2 : ¬ a = b → Wk E h kc kn pc2 ls st) : Wk E h kc kn pc ls (.ref b :: .ref a :: st) := by
  obtain ⟨hd, rfl, h0, h1⟩ := hd
  by_cases u : a = b
  · exact K.lift (fun p e s m args below meth c F T locs X eT t q => RoadKit.acmp (g := mkF m pc ls (.ref b :: .ref a :: st)) X F.1 rfl (x := .ref a) (y := .ref b) rfl rfl (same := true) rfl (hb F.2.1 hd) rfl (by simp [u]) h0 (by simp [acV]) q) (k1 u)
  · exact K.lift (fun p e s m args below meth c F T locs X eT t q => RoadKit.acmp (g := mkF m pc ls (.ref b :: .ref a :: st)) X F.1 rfl (x := .ref a) (y := .ref b) rfl rfl (same := false) rfl (hb F.2.1 hd) rfl (by simp [u]) h0 (by simp [acV, h1]) q) (k2 u)
theorem Kx.initO (K : Kx E y bytes ml rt l Z R n0 Q) {i : Nat} (W : Nat) (hd : Dc bytes pc (.invokespecial i) 3 pc') (w1 : (Jvm.Cond.methodLink y.cls i Lib.objectInit).before a0 Z = true) (w2 : (Jvm.Cond.instanceMethod Lib.objectInit).before a0 Z = true) (w3 : (Jvm.Cond.code Lib.objectInit ⟨#[0xb1]⟩ 1 none).before a0 Z = true)
    (hsz : ls.size = ml) (hf : 1 ≤ R.frames) (hW : (st.map fun v => v.category).sum ≤ W) (hlo : W + 12 ≤ R.locals) (k : Wk E h kc kn pc' ls st) : Wk E h kc kn pc ls (.ref a :: st) := by
  obtain ⟨hd, rfl⟩ := hd
  refine K.move (fun p e s m args below meth c G T locs X eT N => ?_)
  obtain ⟨g1, g2, g3, g4, g5, hZ, hown, g8, g9⟩ := G
  have hn : n0 ≤ h.size := by rw [← eT]; exact Nat.le_trans g9 X.same.2.1
  obtain ⟨T', X', e', q'⟩ := RoadKit.initO X g1 hZ hown w1 w2 w3 eT (g := mkF m pc ls (.ref a :: st)) rfl (by rw [g3]; exact hsz) rfl (hb g2 hd) hf (W := W) (by show 2 * 0 + _ ≤ _; omega) hlo
  exact ⟨T', _, _, _, _, _, _, _, X', e', N, (Nat.le_refl _), k, fun t q => q' t q⟩
theorem Kx.callS (K : Kx E y bytes ml rt l Z R n0 Q) {i : Nat} {y' : MethodName} {bytes' : ByteArray} {ml' : Nat} {rt' : Option FieldType} {rm : Room} {Q' : Option Value → Heap → Prop} (as rest : List Value) (W kc' kn' : Nat) (hd : Dc bytes pc (.invokestatic i) 3 pc')
    (wl : (Jvm.Cond.methodLink y.cls i y').before a0 Z = true) (ws : (Jvm.Cond.static y').before a0 Z = true) (wz : (Jvm.Cond.initialized y'.cls).before a0 Z = true) (wc : (Jvm.Cond.code y' bytes' ml' rt').before a0 Z = true) (hy : y'.cls ≠ "java/lang/invoke/MethodHandle" ∧ y'.cls ≠ "java/lang/invoke/VarHandle")
    (con : Con l Z y' bytes' ml' rt' rm as.toArray h n0 Q') (hst : st = as.reverse ++ rest) (hlen : ∀ sig, parseMethodDescriptor y'.desc = some sig → as.length = sig.parameters.length) (hsz : ls.size = ml) (hW : (rest.map fun v => v.category).sum ≤ W)
    (hf : rm.frames + 1 ≤ R.frames) (hlo : W + (ml' + 11) + rm.locals ≤ R.locals) (hk : kc + rm.cells = kc') (hk2 : kn + rm.slots = kn') (hc : kc' ≤ R.cells) (hl : kn' ≤ R.slots)
    (k : ∀ v h', Q' v h' → Wk E h' kc' kn' pc' ls (v.toList ++ rest)) : Wk E h kc kn pc ls st := by
  obtain ⟨hd, rfl⟩ := hd
  obtain ⟨p, e, s, m, args, below, meth, c, rfl, g1, g2, g3, g4, g5, hZ, hown, g8, g9⟩ := K
  intro T locs X eT N
  have hn : n0 ≤ h.size := by rw [← eT]; exact Nat.le_trans g9 X.same.2.1
  subst hst hk hk2
  obtain ⟨v, vm₁, ⟨T', L', k', n'⟩, -, X', ⟨L, ⟨hQ, hFr⟩, e1, e2, e3⟩, q'⟩ := Jvm.LawKit.callS X g1 (y := y') hown (mvT hZ wl) (mvT hZ ws) (mvT hZ wz) (mvT hZ wc) hy (backOf (W := W) (Q := fun v h L => Q' v h ∧ Fr n0 L) (con hn []) hZ wc wz hf hlo) (g := mkF m pc ls (as.reverse ++ rest)) rfl (by rw [g3]; exact hsz) (argsL := as) (rest := rest) hlen rfl (by show 2 * 0 + _ ≤ _; omega) (hb g2 hd) (fun _ _ => ⟨rfl, eT, hc, hl⟩)
  dsimp only [Pt.U, Pt.locs, Pt.cells, Pt.slots] at X' e1 e2 e3 q' hQ
  subst e1 e2 e3
  obtain ⟨s₂, o, q, r⟩ := k v T'.heap hQ T' _ X' rfl (Fr.app N hFr)
  exact ⟨s₂, o, q' _ q, r⟩
theorem Kx.callI (K : Kx E y bytes ml rt l Z R n0 Q) {i : Nat} {y' : MethodName} {bytes' : ByteArray} {ml' : Nat} {rt' : Option FieldType} {rm : Room} {Q' : Option Value → Heap → Prop} (as rest : List Value) (W kc' kn' : Nat) (hd : Dc bytes pc (.invokespecial i) 3 pc') (hy1 : y'.name = "<init>") (hrt : rt' = none)
    (wl : (Jvm.Cond.methodLink y.cls i y').before a0 Z = true) (wn : (Jvm.Cond.instanceMethod y').before a0 Z = true) (wz : (Jvm.Cond.initialized y'.cls).before a0 Z = true) (wc : (Jvm.Cond.code y' bytes' ml' rt').before a0 Z = true) (hy : y'.cls ≠ "java/lang/invoke/MethodHandle" ∧ y'.cls ≠ "java/lang/invoke/VarHandle")
    (con : Con l Z y' bytes' ml' rt' rm (.ref a :: as).toArray h n0 Q') (hst : st = as.reverse ++ .ref a :: rest) (hlen : ∀ sig, parseMethodDescriptor y'.desc = some sig → as.length = sig.parameters.length) (hsz : ls.size = ml) (hW : (rest.map fun v => v.category).sum ≤ W)
    (hf : rm.frames + 1 ≤ R.frames) (hlo : W + (ml' + 11) + rm.locals ≤ R.locals) (hk : kc + rm.cells = kc') (hk2 : kn + rm.slots = kn') (hc : kc' ≤ R.cells) (hl : kn' ≤ R.slots)
    (k : ∀ v h', Q' v h' → Wk E h' kc' kn' pc' ls (v.toList ++ rest)) : Wk E h kc kn pc ls st := by
  obtain ⟨hd, rfl⟩ := hd
  obtain ⟨p, e, s, m, args, below, meth, c, rfl, g1, g2, g3, g4, g5, hZ, hown, g8, g9⟩ := K
  intro T locs X eT N
  have hn : n0 ≤ h.size := by rw [← eT]; exact Nat.le_trans g9 X.same.2.1
  subst hst hk hk2
  subst hrt
  obtain ⟨v, vm₁, ⟨T', L', k', n'⟩, -, X', ⟨L, ⟨hQ, hFr⟩, e1, e2, e3⟩, q'⟩ := X.specialBack g1 (y := y') hy1 hown (mvT hZ wl) (mvT hZ wn) (mvT hZ wc) hy (backOf (W := W) (Q := fun v h L => Q' v h ∧ Fr n0 L) (con hn []) hZ wc wz hf hlo) (g := mkF m pc ls (as.reverse ++ .ref a :: rest)) rfl (by rw [g3]; exact hsz) (Steps.refl _) (a := a) (argsL := as) (rest := rest) hlen rfl (by show 2 * 0 + _ ≤ _; omega) (hb g2 hd) (fun _ _ => ⟨rfl, eT, hc, hl⟩)
  dsimp only [Pt.U, Pt.locs, Pt.cells, Pt.slots] at X' e1 e2 e3 q' hQ
  subst e1 e2 e3
  obtain ⟨s₂, o, q, r⟩ := k v T'.heap hQ T' _ X' rfl (Fr.app N hFr)
  exact ⟨s₂, o, q'.trans q, r⟩
theorem Kx.callV (K : Kx E y bytes ml rt l Z R n0 Q) {i : Nat} {y' : MethodName} {bytes' : ByteArray} {ml' : Nat} {rt' : Option FieldType} {rm : Room} {Q' : Option Value → Heap → Prop} (as rest : List Value) (W kc' kn' : Nat) {C : String} (hd : Dc bytes pc (.invokevirtual i) 3 pc')
    (wl : (Jvm.Cond.methodLink y.cls i y').before a0 Z = true) (wd : (Jvm.Cond.declares y').before a0 Z = true) (wse : (Jvm.Cond.selects C y' y').before a0 Z = true) (wn : (Jvm.Cond.instanceMethod y').before a0 Z = true) (wz : (Jvm.Cond.initialized y'.cls).before a0 Z = true) (wc : (Jvm.Cond.code y' bytes' ml' rt').before a0 Z = true) (hy : y'.cls ≠ "java/lang/invoke/MethodHandle" ∧ y'.cls ≠ "java/lang/invoke/VarHandle")
    (con : Con l Z y' bytes' ml' rt' rm (.ref a :: as).toArray h n0 Q') (X0 : Exa Z h a C) (hst : st = as.reverse ++ .ref a :: rest) (hlen : ∀ sig, parseMethodDescriptor y'.desc = some sig → as.length = sig.parameters.length) (hsz : ls.size = ml) (hW : (rest.map fun v => v.category).sum ≤ W)
    (hf : rm.frames + 1 ≤ R.frames) (hlo : W + (ml' + 11) + rm.locals ≤ R.locals) (hk : kc + rm.cells = kc') (hk2 : kn + rm.slots = kn') (hc : kc' ≤ R.cells) (hl : kn' ≤ R.slots)
    (k : ∀ v h', Q' v h' → Wk E h' kc' kn' pc' ls (v.toList ++ rest)) : Wk E h kc kn pc ls st := by
  obtain ⟨hd, rfl⟩ := hd
  obtain ⟨p, e, s, m, args, below, meth, c, rfl, g1, g2, g3, g4, g5, hZ, hown, g8, g9⟩ := K
  intro T locs X eT N
  have hn : n0 ≤ h.size := by rw [← eT]; exact Nat.le_trans g9 X.same.2.1
  subst hst hk hk2
  obtain ⟨cq, kq, qa, qb, qc⟩ := isOf hZ eT X0
  obtain ⟨v, vm₁, ⟨T', L', k', n'⟩, -, X', ⟨L, ⟨hQ, hFr⟩, e1, e2, e3⟩, q'⟩ := X.virtualBack g1 (y := y') (z := y') hown (mvT hZ wl) (mvT hZ wd) (notFace_of_selects (args := #[]) (mvT hZ wse)) (mvT hZ wse) (mvT hZ wn) hy (backOf (W := W) (Q := fun v h L => Q' v h ∧ Fr n0 L) (con hn []) hZ wc wz hf hlo) qa qc (g := mkF m pc ls (as.reverse ++ .ref a :: rest)) rfl (by rw [g3]; exact hsz) (Steps.refl _) (argsL := as) (rest := rest) hlen rfl (by show 2 * 0 + _ ≤ _; omega) (hb g2 hd) (fun _ _ => ⟨rfl, eT, hc, hl⟩)
  dsimp only [Pt.U, Pt.locs, Pt.cells, Pt.slots] at X' e1 e2 e3 q' hQ
  subst e1 e2 e3
  obtain ⟨s₂, o, q, r⟩ := k v T'.heap hQ T' _ X' rfl (Fr.app N hFr)
  exact ⟨s₂, o, q'.trans q, r⟩
theorem Kx.callP (K : Kx E y bytes ml rt l Z R n0 Q) {i : Nat} {y' : MethodName} {bytes' : ByteArray} {ml' : Nat} {rt' : Option FieldType} {rm : Room} {Q' : Option Value → Heap → Prop} (as rest : List Value) (W kc' kn' : Nat) {C : String} (hd : Dc bytes pc (.invokevirtual i) 3 pc')
    (wl : (Jvm.Cond.methodLink y.cls i y').before a0 Z = true) (wp : (Jvm.Cond.privateMethod y').before a0 Z = true) (wse : (Jvm.Cond.selects y'.cls y' y').before a0 Z = true) (wn : (Jvm.Cond.instanceMethod y').before a0 Z = true) (wz : (Jvm.Cond.initialized y'.cls).before a0 Z = true) (wc : (Jvm.Cond.code y' bytes' ml' rt').before a0 Z = true) (hy : y'.cls ≠ "java/lang/invoke/MethodHandle" ∧ y'.cls ≠ "java/lang/invoke/VarHandle")
    (con : Con l Z y' bytes' ml' rt' rm (.ref a :: as).toArray h n0 Q') (X0 : Exa Z h a C) (hst : st = as.reverse ++ .ref a :: rest) (hlen : ∀ sig, parseMethodDescriptor y'.desc = some sig → as.length = sig.parameters.length) (hsz : ls.size = ml) (hW : (rest.map fun v => v.category).sum ≤ W)
    (hf : rm.frames + 1 ≤ R.frames) (hlo : W + (ml' + 11) + rm.locals ≤ R.locals) (hk : kc + rm.cells = kc') (hk2 : kn + rm.slots = kn') (hc : kc' ≤ R.cells) (hl : kn' ≤ R.slots)
    (k : ∀ v h', Q' v h' → Wk E h' kc' kn' pc' ls (v.toList ++ rest)) : Wk E h kc kn pc ls st := by
  obtain ⟨hd, rfl⟩ := hd
  obtain ⟨p, e, s, m, args, below, meth, c, rfl, g1, g2, g3, g4, g5, hZ, hown, g8, g9⟩ := K
  intro T locs X eT N
  have hn : n0 ≤ h.size := by rw [← eT]; exact Nat.le_trans g9 X.same.2.1
  subst hst hk hk2
  obtain ⟨cq, qa, qb⟩ := X0.cell
  obtain ⟨v, vm₁, ⟨T', L', k', n'⟩, -, X', ⟨L, ⟨hQ, hFr⟩, e1, e2, e3⟩, q'⟩ := X.privateBack g1 (y := y') hown (mvT hZ wl) (mvT hZ wn) (mvT hZ wse) (Cond.privateMethod_at (mvP hZ wp (args := #[]))) (mvT hZ wc) hy (backOf (W := W) (Q := fun v h L => Q' v h ∧ Fr n0 L) (con hn []) hZ wc wz hf hlo) (g := mkF m pc ls (as.reverse ++ .ref a :: rest)) rfl (by rw [g3]; exact hsz) (Steps.refl _) (a := a) (by rw [eT]; exact qa) qb (argsL := as) (rest := rest) hlen rfl (by show 2 * 0 + _ ≤ _; omega) (hb g2 hd) (fun _ _ => ⟨rfl, eT, hc, hl⟩)
  dsimp only [Pt.U, Pt.locs, Pt.cells, Pt.slots] at X' e1 e2 e3 q' hQ
  subst e1 e2 e3
  obtain ⟨s₂, o, q, r⟩ := k v T'.heap hQ T' _ X' rfl (Fr.app N hFr)
  exact ⟨s₂, o, q'.trans q, r⟩
/-- how a call goes on: it hands back one value and leaves the heap; a value; nothing; a reference -/
theorem goP {val : Value} {rest : List Value} (k : Wk E h kc kn pc ls (val :: rest)) : ∀ v h', (v = some val ∧ h' = h) → Wk E h' kc kn pc ls (v.toList ++ rest) := fun v h' q => by obtain ⟨rfl, rfl⟩ := q; exact k
theorem goV {val : Value} {rest : List Value} {Qh : Heap → Prop} (k : ∀ h', Qh h' → Wk E h' kc kn pc ls (val :: rest)) : ∀ v h', (v = some val ∧ Qh h') → Wk E h' kc kn pc ls (v.toList ++ rest) := fun v h' q => by obtain ⟨rfl, q⟩ := q; exact k h' q
theorem goN {rest : List Value} (k : Wk E h kc kn pc ls rest) : ∀ v h', (v = (none : Option Value) ∧ h' = h) → Wk E h' kc kn pc ls (v.toList ++ rest) := fun v h' q => by obtain ⟨rfl, rfl⟩ := q; exact k
theorem goU {rest : List Value} {Qh : Heap → Prop} (k : ∀ h', Qh h' → Wk E h' kc kn pc ls rest) : ∀ v h', (v = (none : Option Value) ∧ Qh h') → Wk E h' kc kn pc ls (v.toList ++ rest) := fun v h' q => by obtain ⟨rfl, q⟩ := q; exact k h' q
theorem goR {rest : List Value} {Qr : Addr → Heap → Prop} (k : ∀ a h', Qr a h' → Wk E h' kc kn pc ls (.ref a :: rest)) : ∀ v h', (∃ a, v = some (.ref a) ∧ Qr a h') → Wk E h' kc kn pc ls (v.toList ++ rest) := fun v h' q => by obtain ⟨a, rfl, q⟩ := q; exact k a h' q
theorem goI {rest : List Value} {Qr : Int32 → Heap → Prop} (k : ∀ a h', Qr a h' → Wk E h' kc kn pc ls (.int a :: rest)) : ∀ v h', (∃ a, v = some (.int a) ∧ Qr a h') → Wk E h' kc kn pc ls (v.toList ++ rest) := fun v h' q => by obtain ⟨a, rfl, q⟩ := q; exact k a h' q
theorem Kx.ret (K : Kx E y bytes ml none l Z R n0 Q) (hd : Dc bytes pc .return_ 1 pc') (hc : kc ≤ R.cells) (hl : kn ≤ R.slots) (hQ : Q none h) : Wk E h kc kn pc ls [] := by
  obtain ⟨p, e, s, m, args, below, meth, c, rfl, g1, g2, g3, g4, g5, hZ, hown, g8, g9⟩ := K
  intro T locs X eT N
  obtain ⟨fs, hr, hrun, hended, hW, hsame⟩ := X.leave (v := none) (fun _ => rfl) g5
  exact ⟨_, _, X.returnOut g1 g4 (hb g2 hd.1) hr, hrun, hended, _, _, rfl, ⟨(by show Q none T.heap; rw [eT]; exact hQ), N⟩, ⟨_, rfl⟩, hW, hsame.mono hc hl⟩
theorem Kx.retW {t : FieldType} {w : Value} {i : Instr} (K : Kx E y bytes ml (some t) l Z R n0 Q) (hd : Dc bytes pc i 1 pc') (hna : narrow t w = w) (hi : (i = .ireturn ∧ (t = .int ∨ t = .boolean ∨ t = .byte ∨ t = .char ∨ t = .short) ∧ ∃ z, w = .int z) ∨ (i = .lreturn ∧ t = .long ∧ ∃ z, w = .long z) ∨ (i = .dreturn ∧ t = .double ∧ ∃ z, w = .double z) ∨ (i = .freturn ∧ t = .float ∧ ∃ z, w = .float z) ∨ (i = .areturn ∧ t.isReference = true ∧ w.isRef = true)) (hc : kc ≤ R.cells) (hl : kn ≤ R.slots) (hQ : Q (some w) h) : Wk E h kc kn pc ls (w :: st) := by
  obtain ⟨p, e, s, m, args, below, meth, c, rfl, g1, g2, g3, g4, g5, hZ, hown, g8, g9⟩ := K
  intro T locs X eT N
  obtain ⟨fs, hr, hrun, hended, hW, hsame⟩ := X.leave (v := some w) (fun h => by rw [g4] at h; cases h) g5
  exact ⟨_, _, retOut X g1 g4 hna hi (hb g2 hd.1) hr, hrun, hended, _, _, rfl, ⟨(by show Q (some w) T.heap; rw [eT]; exact hQ), N⟩, ⟨_, rfl⟩, hW, hsame.mono hc hl⟩
theorem Kx.ireturn {t : FieldType} {z : Int32} (K : Kx E y bytes ml (some t) l Z R n0 Q) (hd : Dc bytes pc .ireturn 1 pc') (ht : t = .int ∨ t = .boolean ∨ t = .byte ∨ t = .char ∨ t = .short) (hna : narrow t (.int z) = .int z) (hc : kc ≤ R.cells) (hl : kn ≤ R.slots) (hQ : Q (some (.int z)) h) : Wk E h kc kn pc ls (.int z :: st) :=
  K.retW hd hna (Or.inl ⟨rfl, ht, z, rfl⟩) hc hl hQ
theorem Kx.lreturn {z : Int64} (K : Kx E y bytes ml (some .long) l Z R n0 Q) (hd : Dc bytes pc .lreturn 1 pc') (hc : kc ≤ R.cells) (hl : kn ≤ R.slots) (hQ : Q (some (.long z)) h) : Wk E h kc kn pc ls (.long z :: st) :=
  K.retW hd rfl (Or.inr (Or.inl ⟨rfl, rfl, z, rfl⟩)) hc hl hQ
theorem Kx.areturn {t : FieldType} {w : Value} (K : Kx E y bytes ml (some t) l Z R n0 Q) (hd : Dc bytes pc .areturn 1 pc') (ht : t.isReference = true) (hw : w.isRef = true) (hna : narrow t w = w) (hc : kc ≤ R.cells) (hl : kn ≤ R.slots) (hQ : Q (some w) h) : Wk E h kc kn pc ls (w :: st) :=
  K.retW hd hna (Or.inr (Or.inr (Or.inr (Or.inr ⟨rfl, ht, hw⟩)))) hc hl hQ
theorem narB {P : Prop} [Decidable P] : narrow .boolean (.int (if P then 1 else 0)) = .int (if P then 1 else 0) := by split <;> rfl
theorem narB' {P : Prop} [Decidable P] : narrow .boolean (.int (if P then 0 else 1)) = .int (if P then 0 else 1) := by split <;> rfl
end Own
end Jvm.Pilot.@@N@@
namespace Jvm.Pilot.@@N@@
open Jvm Jvm.ClassFile Sem Op Lib Jvm.Free Jvm.Stand Jvm.LawKit Jvm.RoadKit Bundle Jvm.Pilot.@@N@@.Jvm.D
theorem dY_0 : Dc prog_3_method_15_code 0 (.lload_n 0) 1 1 := ⟨by decide +kernel, rfl⟩
theorem dY_1 : Dc prog_3_method_15_code 1 (.lload 4) 2 3 := ⟨by decide +kernel, rfl⟩
theorem dY_3 : Dc prog_3_method_15_code 3 .lsub 1 4 := ⟨by decide +kernel, rfl⟩
theorem dY_4 : Dc prog_3_method_15_code 4 (.lconst 0) 1 5 := ⟨by decide +kernel, rfl⟩
theorem dY_5 : Dc prog_3_method_15_code 5 .lcmp 1 6 := ⟨by decide +kernel, rfl⟩
theorem dY_6 : Db prog_3_method_15_code 6 (.ifCond .lt 16) 16 9 22 := ⟨by decide +kernel, rfl, by decide, by decide⟩
theorem dY_22 : Dc prog_3_method_15_code 22 (.iconst 1) 1 23 := ⟨by decide +kernel, rfl⟩
theorem dY_23 : Db prog_3_method_15_code 23 (.goto 4) 4 26 27 := ⟨by decide +kernel, rfl, by decide, by decide⟩
theorem dY_27 : Dc prog_3_method_15_code 27 .ireturn 1 28 := ⟨by decide +kernel, rfl⟩
theorem dY_9 : Dc prog_3_method_15_code 9 (.lload_n 0) 1 10 := ⟨by decide +kernel, rfl⟩
theorem dY_10 : Dc prog_3_method_15_code 10 (.lload 4) 2 12 := ⟨by decide +kernel, rfl⟩
theorem dY_12 : Dc prog_3_method_15_code 12 .lcmp 1 13 := ⟨by decide +kernel, rfl⟩
theorem dY_13 : Db prog_3_method_15_code 13 (.ifCond .ne 13) 13 16 26 := ⟨by decide +kernel, rfl, by decide, by decide⟩
theorem dY_16 : Dc prog_3_method_15_code 16 (.lload_n 2) 1 17 := ⟨by decide +kernel, rfl⟩
theorem dY_17 : Dc prog_3_method_15_code 17 (.lconst 0) 1 18 := ⟨by decide +kernel, rfl⟩
theorem dY_18 : Dc prog_3_method_15_code 18 .lcmp 1 19 := ⟨by decide +kernel, rfl⟩
theorem dY_19 : Db prog_3_method_15_code 19 (.ifCond .ne 7) 7 22 26 := ⟨by decide +kernel, rfl, by decide, by decide⟩
theorem dY_26 : Dc prog_3_method_15_code 26 (.iconst 0) 1 27 := ⟨by decide +kernel, rfl⟩
theorem efY (m : MethodId) (x0 : Int64) (x1 : Int64) (x2 : Int64) : entryFrame m #[.long x0, .long x1, .long x2] 6 = mkF m 0 #[.val (.long x0), .second, .val (.long x1), .second, .val (.long x2), .second] [] := by first | rfl | (simp [entryFrame, mkF, argsToLocals, Value.category]; done)
theorem pnY : plainFor (⟨"com/example/emission/emission/Gcra", "atRest", "(JJJ)Z"⟩ : MethodName) = true := plainFor_of_name (by first | (simp [plainName, overriddenIn]; done) | decide +kernel)
theorem d0_0 : Dc code 0 (.lload 4) 2 2 := ⟨by decide +kernel, rfl⟩
theorem d0_2 : Dc code 2 (.ldc2_w 7) 3 5 := ⟨by decide +kernel, rfl⟩
set_option maxRecDepth 65536 in
theorem W0 {Z : State} {a0 : Array Value} (hw : ∀ d ∈ tables_1, d.before a0 Z = true) : (Jvm.Cond.constantLong "com/example/emission/emission/GcraAtRestPinLaw" (7 : Nat) (9223372036854775807 : Int64)).before a0 Z = true := hw _ (List.mem_of_getElem? (i := 0) rfl)
theorem d0_5 : Dc code 5 .land 1 6 := ⟨by decide +kernel, rfl⟩
theorem d0_6 : Dc code 6 (.lstore 7) 2 8 := ⟨by decide +kernel, rfl⟩
theorem d0_8 : Dc code 8 (.iload 6) 2 10 := ⟨by decide +kernel, rfl⟩
theorem d0_10 : Dc code 10 (.iconst 1) 1 11 := ⟨by decide +kernel, rfl⟩
theorem d0_11 : Dc code 11 .iand 1 12 := ⟨by decide +kernel, rfl⟩
theorem d0_12 : Db code 12 (.ifCond .eq 6) 6 15 18 := ⟨by decide +kernel, rfl, by decide, by decide⟩
theorem d0_15 : Dc code 15 (.lconst 0) 1 16 := ⟨by decide +kernel, rfl⟩
theorem d0_16 : Dc code 16 (.lstore 7) 2 18 := ⟨by decide +kernel, rfl⟩
theorem d0_18 : Dc code 18 (.lload_n 2) 1 19 := ⟨by decide +kernel, rfl⟩
theorem d0_19 : Dc code 19 (.lstore 9) 2 21 := ⟨by decide +kernel, rfl⟩
theorem d0_21 : Dc code 21 (.iload 6) 2 23 := ⟨by decide +kernel, rfl⟩
theorem d0_23 : Dc code 23 (.iconst 2) 1 24 := ⟨by decide +kernel, rfl⟩
theorem d0_24 : Dc code 24 .iand 1 25 := ⟨by decide +kernel, rfl⟩
theorem d0_25 : Db code 25 (.ifCond .eq 6) 6 28 31 := ⟨by decide +kernel, rfl, by decide, by decide⟩
theorem d0_28 : Dc code 28 (.lconst 0) 1 29 := ⟨by decide +kernel, rfl⟩
theorem d0_29 : Dc code 29 (.lstore 9) 2 31 := ⟨by decide +kernel, rfl⟩
theorem d0_31 : Dc code 31 (.lload_n 0) 1 32 := ⟨by decide +kernel, rfl⟩
theorem d0_32 : Dc code 32 (.lload 9) 2 34 := ⟨by decide +kernel, rfl⟩
theorem d0_34 : Dc code 34 .ladd 1 35 := ⟨by decide +kernel, rfl⟩
theorem d0_35 : Dc code 35 (.lstore 11) 2 37 := ⟨by decide +kernel, rfl⟩
theorem d0_37 : Dc code 37 (.lload 9) 2 39 := ⟨by decide +kernel, rfl⟩
theorem d0_39 : Dc code 39 (.lconst 0) 1 40 := ⟨by decide +kernel, rfl⟩
theorem d0_40 : Dc code 40 .lcmp 1 41 := ⟨by decide +kernel, rfl⟩
theorem d0_41 : Db code 41 (.ifCond .ge 9) 9 44 50 := ⟨by decide +kernel, rfl, by decide, by decide⟩
theorem d0_44 : Dc code 44 (.iconst 1) 1 45 := ⟨by decide +kernel, rfl⟩
theorem d0_45 : Dc code 45 (.istore 13) 2 47 := ⟨by decide +kernel, rfl⟩
theorem d0_47 : Db code 47 (.goto 30) 30 50 77 := ⟨by decide +kernel, rfl, by decide, by decide⟩
theorem d0_50 : Dc code 50 (.lload 9) 2 52 := ⟨by decide +kernel, rfl⟩
theorem d0_52 : Dc code 52 (.lconst 0) 1 53 := ⟨by decide +kernel, rfl⟩
theorem d0_53 : Dc code 53 .lcmp 1 54 := ⟨by decide +kernel, rfl⟩
theorem d0_54 : Db code 54 (.ifCond .le 9) 9 57 63 := ⟨by decide +kernel, rfl, by decide, by decide⟩
theorem d0_57 : Dc code 57 (.iconst 0) 1 58 := ⟨by decide +kernel, rfl⟩
theorem d0_58 : Dc code 58 (.istore 13) 2 60 := ⟨by decide +kernel, rfl⟩
theorem d0_60 : Db code 60 (.goto 17) 17 63 77 := ⟨by decide +kernel, rfl, by decide, by decide⟩
theorem d0_63 : Dc code 63 (.lload 7) 2 65 := ⟨by decide +kernel, rfl⟩
theorem d0_65 : Dc code 65 (.lconst 0) 1 66 := ⟨by decide +kernel, rfl⟩
theorem d0_66 : Dc code 66 .lcmp 1 67 := ⟨by decide +kernel, rfl⟩
theorem d0_67 : Db code 67 (.ifCond .ne 7) 7 70 74 := ⟨by decide +kernel, rfl, by decide, by decide⟩
theorem d0_70 : Dc code 70 (.iconst 1) 1 71 := ⟨by decide +kernel, rfl⟩
theorem d0_71 : Db code 71 (.goto 4) 4 74 75 := ⟨by decide +kernel, rfl, by decide, by decide⟩
theorem d0_75 : Dc code 75 (.istore 13) 2 77 := ⟨by decide +kernel, rfl⟩
theorem d0_74 : Dc code 74 (.iconst 0) 1 75 := ⟨by decide +kernel, rfl⟩
theorem d0_77 : Dc code 77 (.lload 11) 2 79 := ⟨by decide +kernel, rfl⟩
theorem d0_79 : Dc code 79 (.lload 7) 2 81 := ⟨by decide +kernel, rfl⟩
theorem d0_81 : Dc code 81 (.lload_n 0) 1 82 := ⟨by decide +kernel, rfl⟩
theorem d0_82 : Dc code 82 (.invokestatic 9) 3 85 := ⟨by decide +kernel, rfl⟩
set_option maxRecDepth 65536 in
theorem W3 {Z : State} {a0 : Array Value} (hw : ∀ d ∈ tables_1, d.before a0 Z = true) : (Jvm.Cond.initialized "com/example/emission/emission/Gcra").before a0 Z = true := hw _ (List.mem_of_getElem? (i := 3) rfl)
theorem pd_1 : parseMethodDescriptor "(JJJ)Z" = some ⟨[.long, .long, .long], some .boolean⟩ := by decide +kernel
set_option maxRecDepth 65536 in
theorem W1 {Z : State} {a0 : Array Value} (hw : ∀ d ∈ tables_1, d.before a0 Z = true) : (Jvm.Cond.methodLink "com/example/emission/emission/GcraAtRestPinLaw" (9 : Nat) ({ cls := "com/example/emission/emission/Gcra", name := "atRest", desc := "(JJJ)Z" } : Jvm.MethodName)).before a0 Z = true := hw _ (List.mem_of_getElem? (i := 1) rfl)
set_option maxRecDepth 65536 in
theorem W2 {Z : State} {a0 : Array Value} (hw : ∀ d ∈ tables_1, d.before a0 Z = true) : (Jvm.Cond.static ({ cls := "com/example/emission/emission/Gcra", name := "atRest", desc := "(JJJ)Z" } : Jvm.MethodName)).before a0 Z = true := hw _ (List.mem_of_getElem? (i := 2) rfl)
set_option maxRecDepth 65536 in
theorem W4 {Z : State} {a0 : Array Value} (hw : ∀ d ∈ tables_1, d.before a0 Z = true) : (Jvm.Cond.code ({ cls := "com/example/emission/emission/Gcra", name := "atRest", desc := "(JJJ)Z" } : Jvm.MethodName) prog_3_method_15_code (6 : Nat) (Option.some Jvm.ClassFile.FieldType.boolean)).before a0 Z = true := hw _ (List.mem_of_getElem? (i := 4) rfl)
theorem d0_85 : Dc code 85 (.iload 13) 2 87 := ⟨by decide +kernel, rfl⟩
theorem d0_87 : Db code 87 (.if_icmp .ne 7) 7 90 94 := ⟨by decide +kernel, rfl, by decide, by decide⟩
theorem d0_90 : Dc code 90 (.iconst 1) 1 91 := ⟨by decide +kernel, rfl⟩
theorem d0_91 : Db code 91 (.goto 4) 4 94 95 := ⟨by decide +kernel, rfl, by decide, by decide⟩
theorem d0_95 : Dc code 95 .ireturn 1 96 := ⟨by decide +kernel, rfl⟩
theorem ef0 (m : MethodId) (x0 : Int64) (x1 : Int64) (x2 : Int64) (x3 : Int32) : entryFrame m #[.long x0, .long x1, .long x2, .int x3] maxLocals = mkF m 0 #[.val (.long x0), .second, .val (.long x1), .second, .val (.long x2), .second, .val (.int x3), .unset, .unset, .unset, .unset, .unset, .unset, .unset] [] := by first | rfl | (simp [entryFrame, mkF, argsToLocals, Value.category, maxLocals]; done)
theorem pn0 : plainFor (x : MethodName) = true := plainFor_of_name (by show plainName "com/example/emission/emission/GcraAtRestPinLaw" = true; first | (simp [plainName, overriddenIn]; done) | decide +kernel)
def own_rest (w f n : Int64) : Int32 := if w - n < 0 ∨ (w = n ∧ f = 0) then 1 else 0
def own_exp (d f : Int64) : Int32 := if d < 0 ∨ (d = 0 ∧ f = 0) then 1 else 0
theorem own_r1 {w f n : Int64} (h : w - n < 0 ∨ (w = n ∧ f = 0)) : own_rest w f n = 1 := if_pos h
theorem own_r0 {w f n : Int64} (h : ¬ (w - n < 0 ∨ (w = n ∧ f = 0))) : own_rest w f n = 0 := if_neg h
theorem own_x1 {d f : Int64} (h : d < 0 ∨ (d = 0 ∧ f = 0)) : own_exp d f = 1 := if_pos h
theorem own_x0 {d f : Int64} (h : ¬ (d < 0 ∨ (d = 0 ∧ f = 0))) : own_exp d f = 0 := if_neg h
theorem own_zero {d : Int64} (h1 : ¬ d < 0) (h2 : ¬ 0 < d) : d = 0 := by
  have e : (0 : Int64).toInt = 0 := rfl
  rw [Int64.lt_iff_toInt_lt] at h1 h2
  apply Int64.toInt_inj.mp
  omega
theorem own_pos {d f : Int64} (h : 0 < d) : ¬ (d < 0 ∨ (d = 0 ∧ f = 0)) := by
  have e : (0 : Int64).toInt = 0 := rfl
  rw [Int64.lt_iff_toInt_lt] at h
  rintro (q | ⟨rfl, -⟩)
  · rw [Int64.lt_iff_toInt_lt] at q; omega
  · omega
theorem own_sub (n d : Int64) : n + d - n = d := by
  apply Int64.toInt_inj.mp
  have a1 := c_ladd n d; have a2 := c_lsub (n + d) n; have r1 := rng64 (n + d - n); have r2 := rng64 d; have r3 := rng64 (n + d)
  omega
theorem own_same (n d : Int64) : n + d = n ↔ d = 0 := by
  constructor
  · intro h
    have := own_sub n d
    rw [h] at this
    rw [← this]
    apply Int64.toBitVec_inj.mp
    simp
  · rintro rfl
    apply Int64.toBitVec_inj.mp
    simp
theorem own_eq (n d f : Int64) : own_rest (n + d) f n = own_exp d f := by
  unfold own_rest own_exp
  rw [own_sub]
  simp only [own_same]

set_option maxRecDepth 65536 in
set_option maxHeartbeats 40000000 in
theorem rmY (l : Launch) (Z : State) (a0 : Array Value) (hw : ∀ d ∈ tables_1, d.before a0 Z = true) (u f n : Int64) (h : Heap) (n0 : Nat)  : Con l Z ⟨"com/example/emission/emission/Gcra", "atRest", "(JJJ)Z"⟩ prog_3_method_15_code 6 (some .boolean) ({ frames := 0, cells := 0, slots := 0, locals := 0 } : Room) #[.long u, .long f, .long n] h n0 (fun v h' => v = some (.int (own_rest u f n)) ∧ h' = h) := by
  refine Con.of pnY (fun m => efY m u f n) (fun E K => ?_)
  refine K.lloadN dY_0 rfl ?_
  refine K.lload dY_1 rfl ?_
  refine K.lsub dY_3 ?_
  refine K.lconst (0 : Int64) dY_4 rfl ?_
  refine K.lc_lt dY_5 dY_6 (fun hc1 => ?_) (fun hc1 => ?_)
  · refine K.iconst (1 : Int32) dY_22 rfl ?_
    refine K.goto dY_23 ?_
    exact K.ireturn dY_27 (Or.inr (Or.inl rfl)) rfl (by decide) (by decide) ⟨by rw [own_r1 (Or.inl hc1)], rfl⟩
  · refine K.lloadN dY_9 rfl ?_
    refine K.lload dY_10 rfl ?_
    refine K.lc_ne dY_12 dY_13 (fun hc2 => ?_) (fun hc2 => ?_)
    · refine K.lloadN dY_16 rfl ?_
      refine K.lconst (0 : Int64) dY_17 rfl ?_
      refine K.lc_ne dY_18 dY_19 (fun hc3 => ?_) (fun hc3 => ?_)
      · refine K.iconst (1 : Int32) dY_22 rfl ?_
        refine K.goto dY_23 ?_
        exact K.ireturn dY_27 (Or.inr (Or.inl rfl)) rfl (by decide) (by decide) ⟨by rw [own_r1 (Or.inr ⟨hc2, hc3⟩)], rfl⟩
      · refine K.iconst (0 : Int32) dY_26 rfl ?_
        exact K.ireturn dY_27 (Or.inr (Or.inl rfl)) rfl (by decide) (by decide) ⟨by rw [own_r0 (fun q => q.elim hc1 (fun q => hc3 q.2))], rfl⟩
    · refine K.iconst (0 : Int32) dY_26 rfl ?_
      exact K.ireturn dY_27 (Or.inr (Or.inl rfl)) rfl (by decide) (by decide) ⟨by rw [own_r0 (fun q => q.elim hc1 (fun q => hc2 q.1))], rfl⟩
set_option maxRecDepth 65536 in
set_option maxHeartbeats 40000000 in
theorem rm0 (l : Launch) (Z : State) (a0 : Array Value) (hw : ∀ d ∈ tables_1, d.before a0 Z = true) (p q r : Int64) (s : Int32) (h : Heap) (n0 : Nat)  : Con l Z x code maxLocals ret room_1 #[.long p, .long q, .long r, .int s] h n0 (fun v h' => v = some (.int 1)) := by
  refine Con.of pn0 (fun m => ef0 m p q r s) (fun E K => ?_)
  refine K.lload d0_0 rfl ?_
  refine K.ldc2J d0_2 (W0 hw) ?_
  refine K.land d0_5 ?_
  refine K.lstore #[.val (.long p), .second, .val (.long q), .second, .val (.long r), .second, .val (.int s), .val (.long (r &&& (9223372036854775807 : Int64))), .second, .unset, .unset, .unset, .unset, .unset] d0_6 rfl ?_
  refine K.iload d0_8 rfl ?_
  refine K.iconst (1 : Int32) d0_10 rfl ?_
  refine K.iand d0_11 ?_
  refine cut (P := ∀ f : Int64, Wk E h 0 0 18 #[.val (.long p), .second, .val (.long q), .second, .val (.long r), .second, .val (.int s), .val (.long f), .second, .unset, .unset, .unset, .unset, .unset] []) (fun J1 => ?_) ?_
  · refine K.if_eq d0_12 (fun hc2 => ?_) (fun hc2 => ?_)
    · exact J1 _
    · refine K.lconst (0 : Int64) d0_15 rfl ?_
      refine K.lstore #[.val (.long p), .second, .val (.long q), .second, .val (.long r), .second, .val (.int s), .val (.long (0 : Int64)), .second, .unset, .unset, .unset, .unset, .unset] d0_16 rfl ?_
      exact J1 _
  intro f
  refine K.lloadN d0_18 rfl ?_
  refine K.lstore #[.val (.long p), .second, .val (.long q), .second, .val (.long r), .second, .val (.int s), .val (.long f), .second, .val (.long q), .second, .unset, .unset, .unset] d0_19 rfl ?_
  refine K.iload d0_21 rfl ?_
  refine K.iconst (2 : Int32) d0_23 rfl ?_
  refine K.iand d0_24 ?_
  refine cut (P := ∀ d : Int64, Wk E h 0 0 31 #[.val (.long p), .second, .val (.long q), .second, .val (.long r), .second, .val (.int s), .val (.long f), .second, .val (.long d), .second, .unset, .unset, .unset] []) (fun J3 => ?_) ?_
  · refine K.if_eq d0_25 (fun hc4 => ?_) (fun hc4 => ?_)
    · exact J3 _
    · refine K.lconst (0 : Int64) d0_28 rfl ?_
      refine K.lstore #[.val (.long p), .second, .val (.long q), .second, .val (.long r), .second, .val (.int s), .val (.long f), .second, .val (.long (0 : Int64)), .second, .unset, .unset, .unset] d0_29 rfl ?_
      exact J3 _
  intro d
  refine K.lloadN d0_31 rfl ?_
  refine K.lload d0_32 rfl ?_
  refine K.ladd d0_34 ?_
  refine K.lstore #[.val (.long p), .second, .val (.long q), .second, .val (.long r), .second, .val (.int s), .val (.long f), .second, .val (.long d), .second, .val (.long (p + d)), .second, .unset] d0_35 rfl ?_
  refine K.lload d0_37 rfl ?_
  refine K.lconst (0 : Int64) d0_39 rfl ?_
  refine cut (P := ∀ z : Int32, z = own_exp d f → Wk E h 0 0 77 #[.val (.long p), .second, .val (.long q), .second, .val (.long r), .second, .val (.int s), .val (.long f), .second, .val (.long d), .second, .val (.long (p + d)), .second, .val (.int z)] []) (fun J5 => ?_) ?_
  · refine K.lc_ge d0_40 d0_41 (fun hc6 => ?_) (fun hc6 => ?_)
    · refine K.iconst (1 : Int32) d0_44 rfl ?_
      refine K.istore #[.val (.long p), .second, .val (.long q), .second, .val (.long r), .second, .val (.int s), .val (.long f), .second, .val (.long d), .second, .val (.long (p + d)), .second, .val (.int (1 : Int32))] d0_45 rfl ?_
      refine K.goto d0_47 ?_
      exact J5 _ (own_x1 (Or.inl hc6)).symm
    · refine K.lload d0_50 rfl ?_
      refine K.lconst (0 : Int64) d0_52 rfl ?_
      refine K.lc_le d0_53 d0_54 (fun hc7 => ?_) (fun hc7 => ?_)
      · refine K.iconst (0 : Int32) d0_57 rfl ?_
        refine K.istore #[.val (.long p), .second, .val (.long q), .second, .val (.long r), .second, .val (.int s), .val (.long f), .second, .val (.long d), .second, .val (.long (p + d)), .second, .val (.int (0 : Int32))] d0_58 rfl ?_
        refine K.goto d0_60 ?_
        exact J5 _ (own_x0 (own_pos hc7)).symm
      · refine K.lload d0_63 rfl ?_
        refine K.lconst (0 : Int64) d0_65 rfl ?_
        refine K.lc_ne d0_66 d0_67 (fun hc8 => ?_) (fun hc8 => ?_)
        · refine K.iconst (1 : Int32) d0_70 rfl ?_
          refine K.goto d0_71 ?_
          refine K.istore #[.val (.long p), .second, .val (.long q), .second, .val (.long r), .second, .val (.int s), .val (.long f), .second, .val (.long d), .second, .val (.long (p + d)), .second, .val (.int (1 : Int32))] d0_75 rfl ?_
          exact J5 _ (own_x1 (Or.inr ⟨own_zero hc6 hc7, hc8⟩)).symm
        · refine K.iconst (0 : Int32) d0_74 rfl ?_
          refine K.istore #[.val (.long p), .second, .val (.long q), .second, .val (.long r), .second, .val (.int s), .val (.long f), .second, .val (.long d), .second, .val (.long (p + d)), .second, .val (.int (0 : Int32))] d0_75 rfl ?_
          exact J5 _ (own_x0 (fun q => q.elim hc6 (fun q => hc8 q.2))).symm
  intro z hz
  refine K.lload d0_77 rfl ?_
  refine K.lload d0_79 rfl ?_
  refine K.lloadN d0_81 rfl ?_
  refine K.callS [.long (p + d), .long f, .long p] [] 0 0 0 d0_82 (W1 hw) (W2 hw) (W3 hw) (W4 hw) (by decide) (rmY l Z a0 hw (p + d) f p h n0) rfl (lenOf pd_1 rfl) rfl (Nat.le_of_eq rfl) (by decide) (by decide) rfl rfl (by decide) (by decide) (goP ?_)
  refine K.iload d0_85 rfl ?_
  refine K.ic_ne d0_87 (fun _ => ?_) (fun u => absurd ((own_eq _ _ _).trans hz.symm) u)
  refine K.iconst (1 : Int32) d0_90 rfl ?_
  refine K.goto d0_91 ?_
  exact K.ireturn d0_95 (Or.inr (Or.inl rfl)) rfl (by decide) (by decide) rfl
set_option maxRecDepth 65536 in
set_option maxHeartbeats 40000000 in
theorem comes_1 {Post : Tables → Env → Array Value → State → Outcome → State → Prop} (hpost : ∀ tb e args s v u, (limb_1_1.after args s (.returned v) u = true ∧ limb_1_2.after args s (.returned v) u = true ∧ True) → FrameEnd s (.returned v) u (Jvm.fieldLocs frame_1_writes args s ++ Jvm.arrayLocs frame_1_arrays args s ++ Jvm.staticLocs frame_1_statics s) 0 0 → Post tb e args s (.returned v) u) :
    ArmFor flags0 classFile x code maxLocals ret World_1 tables_1 room_1 Calls_1 rest_1 Pre_1 Post := by
  intro l hfl _ _ p e ha hc hk s m args below hf hA hF happ hP
  obtain ⟨hcalls, hrest, hpre⟩ := hP
  obtain ⟨-, -, -, hnamed, -, -, -, hat⟩ := (Spec.applies_iff hf).mp happ
  obtain ⟨hg, hn⟩ := and_e (Cond.before_iff.mp (show (Jvm.Cond.and given_1 narrow_1).before args s = true from hpre))
  obtain ⟨hcount, hk0⟩ := and_e hg
  obtain ⟨ha0, hk1⟩ := and_e hk0
  obtain ⟨ha1, hk2⟩ := and_e hk1
  obtain ⟨ha2, hk3⟩ := and_e hk2
  obtain ⟨w0, w1, w2, w3, rfl⟩ : ∃ w0 w1 w2 w3 : Value, args = #[w0, w1, w2, w3] := by
    have hs : args.size = 4 := by simpa [Cond.value, given_1] using hcount
    obtain ⟨L⟩ := args
    match L, hs with
    | [w0, w1, w2, w3], _ => exact ⟨w0, w1, w2, w3, rfl⟩
  have hw := fun d (hd : d ∈ tables_1) => atoms_spec (ws := Jvm.Cond.code x code maxLocals ret :: tables_1) hat d (List.mem_cons_of_mem _ hd)
  obtain ⟨i0, e0⟩ := isL_v ha0
  obtain rfl : w0 = (.long i0) := Option.some.inj e0
  obtain ⟨i1, e1⟩ := isL_v ha1
  obtain rfl : w1 = (.long i1) := Option.some.inj e1
  obtain ⟨i2, e2⟩ := isL_v ha2
  obtain rfl : w2 = (.long i2) := Option.some.inj e2
  obtain ⟨i3, e3⟩ := is_v hk3
  obtain rfl : w3 = (.int i3) := Option.some.inj e3

  obtain ⟨n, o, h1, h2, h3, _, L, rfl, ⟨rfl, N⟩, hq⟩ := rm0 l s _ hw i0 i1 i2 i3  s.heap s.heap.size  (Nat.le_refl _) tables_1 p e ha hc hk s m _ below hf ((Spec.applies_iff_loose hf).mp happ).1 ⟨rfl, State.Warmed39.refl s, rfl⟩ trivial
  refine ⟨n, _, h1, h2, h3, hpost _ _ _ _ _ _ ⟨Cond.after_iff.mpr rfl, Cond.after_iff.mpr (eq_i res_at (Term.int_eval (1)) rfl), trivial⟩ ⟨hq.1, hq.2.1, (hq.2.2.sift fun y hy => Or.inr (N y hy)).mono (by decide) (by decide)⟩⟩
theorem main_1_1 : Claimed_1_1 := comes_1 fun _ _ _ _ _ _ h hF => ⟨h.1, hF⟩
theorem main_1_2 : Claimed_1_2 := comes_1 fun _ _ _ _ _ _ h hF => ⟨h.2.1, hF⟩
end Jvm.Pilot.@@N@@
namespace Jvm.Pilot.@@N@@
open Jvm Jvm.ClassFile Sem Op Lib Jvm.Free Jvm.Stand Jvm.Pilot.@@N@@.Jvm.D
/-! MADE BY PROGRAM (witnessworld.py) out of the Statement's table words and the real class files: 9 classes; the members and pool entries that the words name. The judged class is class 1, her method 1. -/
namespace start1
open Jvm.ClassFile
def u (s : String) : CpInfo := .utf8 (stringToUtf16 s)
/-- a pool by its gaps: so many unusable entries, then the entry; so many at the end -/
def gap : Nat → List CpInfo → List CpInfo
  | 0, r => r
  | n + 1, r => .unusable :: gap n r
def poolList (es : List (Nat × CpInfo)) (last : Nat) : List CpInfo := es.foldr (fun e r => gap e.1 (e.2 :: r)) (gap last [])
def pool (es : List (Nat × CpInfo)) (last : Nat) : Array CpInfo := ⟨poolList es last⟩
def fileOf (pool : Array CpInfo) (this : Nat) (attrs : Array Attribute := #[]) (ms : Array MethodInfo := #[]) (fl : Nat := 33) (sup : Nat := 0) (ifs : Array Nat := #[]) (fds : Array FieldInfo := #[]) : ClassFile where
  minorVersion := 0
  majorVersion := 65
  constantPool := pool
  accessFlags := fl
  thisClass := this
  superClass := sup
  interfaces := ifs
  fields := fds
  methods := ms
  attributes := attrs
def plain (name : String) (sup : Option ClassId) : Class where
  name := name
  kind := .ordinary
  loader := none
  accessFlags := 33
  super := sup
  interfaces := #[]
  cf := none
  fields := #[]
  methods := #[]
  instanceTypes := #[]
  staticTypes := #[]
  resolved := #[]
  callSites := []
  init := .initialized
  statics := none
  mirror := none

def pool0 : Array CpInfo := pool [(5, u "<init>"), (0, u "()V"), (1, .class_ 10), (1, u "java/lang/Object")] 113

def k0m0 : Method := { name := "<init>", desc := "()V", sig := { parameters := [], returnType := none }, accessFlags := 1, code := none }
/-- java/lang/Object -/
def k0 : Class := { plain "java/lang/Object" none with
  accessFlags := 33
  interfaces := #[]
  cf := some (fileOf pool0 8 #[] #[{ accessFlags := 1, nameIndex := 5, descriptorIndex := 6, attributes := #[] }] 33 0 #[] #[])
  fields := #[]
  methods := #[k0m0]
  instanceTypes := #[]
  staticTypes := #[]
  resolved := Array.replicate 124 none
  statics := none }

def pool1 : Array CpInfo := pool [(2, .class_ 4), (1, u "java/lang/Object"), (0, u "<init>"), (0, u "()V"), (0, .long 9223372036854775807), (1, .methodref 10 11), (0, .class_ 12), (0, .nameAndType 13 14), (0, u "com/example/emission/emission/Gcra"), (0, u "atRest"), (0, u "(JJJ)Z"), (0, .class_ 16), (0, u "com/example/emission/emission/GcraAtRestPinLaw"), (2, u "law"), (0, u "(JJJI)Z")] 3

def k1m0 : Method := { name := "<init>", desc := "()V", sig := { parameters := [], returnType := none }, accessFlags := 2, code := none }
def k1c1 : Code := { maxStack := 6, maxLocals := 14, code := code, exceptionTable := #[], attributes := #[] }
def k1m1 : Method := { name := "law", desc := "(JJJI)Z", sig := { parameters := [.long, .long, .long, .int], returnType := some .boolean }, accessFlags := 9, code := some k1c1 }
/-- com/example/emission/emission/GcraAtRestPinLaw -/
def k1 : Class := { plain "com/example/emission/emission/GcraAtRestPinLaw" (some 0) with
  accessFlags := 49
  interfaces := #[]
  cf := some (fileOf pool1 15 #[] #[{ accessFlags := 2, nameIndex := 5, descriptorIndex := 6, attributes := #[] }, { accessFlags := 9, nameIndex := 19, descriptorIndex := 20, attributes := #[] }] 49 2 #[] #[])
  fields := #[]
  methods := #[k1m0, k1m1]
  instanceTypes := #[]
  staticTypes := #[]
  resolved := Array.replicate 24 none
  statics := none }

def pool2 : Array CpInfo := pool [(2, .class_ 4), (1, u "java/lang/Object"), (3, .class_ 10), (1, u "com/example/emission/emission/Gcra"), (0, u "limit"), (0, u "Lcom/example/emission/emission/Limit;"), (4, u "count"), (3, u "J"), (2, u "burst"), (8, u "intervalWhole"), (6, u "intervalFraction"), (2, u "unitToleranceWhole"), (2, u "unitToleranceFraction"), (2, u "burstWhole"), (2, u "burstFraction"), (11, u "unitFromRest"), (0, u "Lcom/example/emission/emission/Decision;"), (11, u "atRest"), (0, u "(JJJ)Z")] 80

def k2c0 : Code := { maxStack := 4, maxLocals := 6, code := prog_3_method_15_code, exceptionTable := #[], attributes := #[] }
def k2m0 : Method := { name := "atRest", desc := "(JJJ)Z", sig := { parameters := [.long, .long, .long], returnType := some .boolean }, accessFlags := 8, code := some k2c0 }
/-- com/example/emission/emission/Gcra -/
def k2 : Class := { plain "com/example/emission/emission/Gcra" (some 0) with
  accessFlags := 48
  interfaces := #[]
  cf := some (fileOf pool2 8 #[] #[{ accessFlags := 8, nameIndex := 77, descriptorIndex := 78, attributes := #[] }] 48 2 #[] #[{ accessFlags := 18, nameIndex := 11, descriptorIndex := 12, attributes := #[] }, { accessFlags := 18, nameIndex := 17, descriptorIndex := 21, attributes := #[] }, { accessFlags := 18, nameIndex := 24, descriptorIndex := 21, attributes := #[] }, { accessFlags := 18, nameIndex := 33, descriptorIndex := 21, attributes := #[] }, { accessFlags := 18, nameIndex := 40, descriptorIndex := 21, attributes := #[] }, { accessFlags := 18, nameIndex := 43, descriptorIndex := 21, attributes := #[] }, { accessFlags := 18, nameIndex := 46, descriptorIndex := 21, attributes := #[] }, { accessFlags := 18, nameIndex := 49, descriptorIndex := 21, attributes := #[] }, { accessFlags := 18, nameIndex := 52, descriptorIndex := 21, attributes := #[] }, { accessFlags := 18, nameIndex := 64, descriptorIndex := 65, attributes := #[] }])
  fields := #[{ name := "limit", type := (.object "com/example/emission/emission/Limit"), accessFlags := 18, slot := 0, constantValue := 0 }, { name := "count", type := .long, accessFlags := 18, slot := 1, constantValue := 0 }, { name := "burst", type := .long, accessFlags := 18, slot := 2, constantValue := 0 }, { name := "intervalWhole", type := .long, accessFlags := 18, slot := 3, constantValue := 0 }, { name := "intervalFraction", type := .long, accessFlags := 18, slot := 4, constantValue := 0 }, { name := "unitToleranceWhole", type := .long, accessFlags := 18, slot := 5, constantValue := 0 }, { name := "unitToleranceFraction", type := .long, accessFlags := 18, slot := 6, constantValue := 0 }, { name := "burstWhole", type := .long, accessFlags := 18, slot := 7, constantValue := 0 }, { name := "burstFraction", type := .long, accessFlags := 18, slot := 8, constantValue := 0 }, { name := "unitFromRest", type := (.object "com/example/emission/emission/Decision"), accessFlags := 18, slot := 9, constantValue := 0 }]
  methods := #[k2m0]
  instanceTypes := #[(.object "com/example/emission/emission/Limit"), .long, .long, .long, .long, .long, .long, .long, .long, (.object "com/example/emission/emission/Decision")]
  staticTypes := #[]
  resolved := Array.replicate 159 none
  statics := none }

def pool3 : Array CpInfo := pool [(1, u "java/lang/Cloneable"), (0, .class_ 1), (0, u "java/lang/Object"), (0, .class_ 3)] 3

/-- java/lang/Cloneable -/
def k3 : Class := { plain "java/lang/Cloneable" (some 0) with
  accessFlags := 1537
  interfaces := #[]
  cf := some (fileOf pool3 2 #[] #[] 1537 4 #[] #[])
  fields := #[]
  methods := #[]
  instanceTypes := #[]
  staticTypes := #[]
  resolved := Array.replicate 8 none
  statics := none }

def pool4 : Array CpInfo := pool [(1, u "java/io/Serializable"), (0, .class_ 1), (0, u "java/lang/Object"), (0, .class_ 3)] 3

/-- java/io/Serializable -/
def k4 : Class := { plain "java/io/Serializable" (some 0) with
  accessFlags := 1537
  interfaces := #[]
  cf := some (fileOf pool4 2 #[] #[] 1537 4 #[] #[])
  fields := #[]
  methods := #[]
  instanceTypes := #[]
  staticTypes := #[]
  resolved := Array.replicate 8 none
  statics := none }

/-- the primitive byte -/
def k5 : Class := { plain "byte" none with kind := .primitive 'B', accessFlags := 0x411 }
/-- [B -/
def k6 : Class := { plain "[B" (some 0) with kind := .array 5 .byte, interfaces := #[3, 4], accessFlags := 1041 }

/-- the primitive int -/
def k7 : Class := { plain "int" none with kind := .primitive 'I', accessFlags := 0x411 }
/-- [I -/
def k8 : Class := { plain "[I" (some 0) with kind := .array 7 .int, interfaces := #[3, 4], accessFlags := 1041 }

def heap : Heap := #[]
def classes : Array Class := #[k0, k1, k2, k3, k4, k5, k6, k7, k8]
def interned : List (Array UInt16 × Addr) := []
def slotsUsed : Nat := 0
def theMethod : MethodId := ⟨1, 1⟩
def args0 : Array Value := #[.long 4, .long 0, .long 9, .int 0]
def aboutOver (below : List Frame) : State where
  vm := { classes := classes, interned := interned.toArray }
  heap := heap
  slotsUsed := slotsUsed
  threads := #[{ frames := .invoking theMethod args0 :: below }]
def below0 : List Frame := [.native { method := ⟨0, 0⟩, args := #[] }]
def about1 : State := aboutOver below0
def p0 : Program := .bare "" "" ""
def e0 : Env := launch0.env 0 0 0
theorem w_frames : about1.frames = Frame.invoking theMethod args0 :: below0 := rfl
set_option maxRecDepth 65536 in
theorem w_args : argsFit about1.vm theMethod args0 = true := by decide +kernel
set_option maxRecDepth 65536 in
theorem w_heap : heapFits about1 = true := by decide +kernel
set_option maxRecDepth 65536 in
theorem w_runnable : about1.curStatus? = some .runnable := by decide +kernel
set_option maxRecDepth 65536 in
theorem w_alone : about1.alone = true := by decide +kernel
set_option maxRecDepth 65536 in
theorem w_named : about1.methodNamed? x = some theMethod := by decide +kernel
set_option maxRecDepth 65536 in
theorem w_hears : about1.hears theMethod below0 = true := by decide +kernel
set_option maxRecDepth 65536 in
theorem w_ripe : about1.ripe theMethod args0 below0 = true := by decide +kernel
theorem w_running : about1.status = .running := rfl
set_option maxRecDepth 65536 in
theorem w_room : about1.hasRoom e0.platform room_1 = true :=
  launch0.hasRoom_least _ room_1 (by decide +kernel) (by decide +kernel) (by decide +kernel) (by decide +kernel) (by decide +kernel) (by decide +kernel)
theorem allAtoms_all (ts : List Jvm.Cond) (a : Array Jvm.Value) (st : Jvm.State) : (allAtoms ts).before a st = ts.all (fun c => c.before a st) := by
  induction ts with
  | nil => rfl
  | cons c t ih =>
    show (Jvm.Cond.and c (allAtoms t)).before a st = _
    rw [Jvm.Cond.before_and, ih, List.all_cons]
def words1 : List Jvm.Cond := Jvm.Cond.code x code maxLocals ret :: tables_1
/-- a 'code' word, met by the world's own term for the bytes: nothing is compared byte by byte -/
theorem code_word {y : MethodName} {bytes : ByteArray} {mx : Nat} {rt : Option FieldType} {a : Array Value} {s : State} {m : MethodId} {meth : Method} {c : Code} (h1 : s.methodNamed? y = some m) (h2 : s.vm.method? m = some meth) (h3 : meth.code = some c) (h4 : c.code = bytes)
    (h5 : (c.maxLocals == mx && c.exceptionTable.isEmpty && decide (c.maxStack ≤ mostOperands) && decide (meth.sig.returnType = rt) && !meth.locks && decide (parseMethodDescriptor y.desc = some meth.sig)) = true) : (Jvm.Cond.code y bytes mx rt).before a s = true := by
  simp only [Bool.and_eq_true, beq_iff_eq, Bool.not_eq_true', decide_eq_true_eq] at h5
  obtain ⟨⟨⟨⟨⟨g1, g2⟩, g3⟩, g4⟩, g5⟩, g6⟩ := h5
  simp [Cond.before, Cond.holds, Cond.value, h1, h2, h3, h4, g1, g2, g3, g4, g5, g6]
def isCode : Jvm.Cond → Bool
  | .code _ _ _ _ => true
  | _ => false
theorem all_split {L : List Jvm.Cond} {P : Jvm.Cond → Bool} (h1 : L.all (fun c => isCode c || P c) = true) (h2 : ∀ c ∈ L.filter isCode, P c = true) : L.all P = true := by
  refine List.all_eq_true.mpr fun c hc => ?_
  have h := List.all_eq_true.mp h1 c hc
  rcases Bool.eq_false_or_eq_true (isCode c) with hi | hi
  · exact h2 c (List.mem_filter.mpr ⟨hc, hi⟩)
  · simpa [hi] using h
set_option maxRecDepth 65536 in
theorem w_c0 : (Jvm.Cond.code x code maxLocals ret).before args0 about1 = true := code_word (m := ⟨1, 1⟩) (meth := k1m1) (c := k1c1) (by decide +kernel) rfl rfl rfl (by decide +kernel)
set_option maxRecDepth 65536 in
theorem w_c1 : (Jvm.Cond.code ({ cls := "com/example/emission/emission/Gcra", name := "atRest", desc := "(JJJ)Z" } : Jvm.MethodName) prog_3_method_15_code (6 : Nat) (Option.some Jvm.ClassFile.FieldType.boolean)).before args0 about1 = true := code_word (m := ⟨2, 0⟩) (meth := k2m0) (c := k2c0) (by decide +kernel) rfl rfl rfl (by decide +kernel)
def codes1 : List Jvm.Cond := [Jvm.Cond.code x code maxLocals ret, Jvm.Cond.code ({ cls := "com/example/emission/emission/Gcra", name := "atRest", desc := "(JJJ)Z" } : Jvm.MethodName) prog_3_method_15_code (6 : Nat) (Option.some Jvm.ClassFile.FieldType.boolean)]
set_option maxRecDepth 65536 in
theorem codes_eq : words1.filter isCode = codes1 := rfl
theorem w_codes : ∀ c ∈ words1.filter isCode, c.before args0 about1 = true := by
  rw [codes_eq]
  intro c hc
  simp only [codes1, List.mem_cons, List.not_mem_nil, or_false] at hc
  rcases hc with rfl | rfl
  · exact w_c0
  · exact w_c1
set_option maxRecDepth 65536 in
theorem w_t1 : words1.all (fun c => isCode c || c.before args0 about1) = true := by decide +kernel
theorem w_tables : (allAtoms (Jvm.Cond.code x code maxLocals ret :: tables_1)).before args0 about1 = true := by
  rw [allAtoms_all]
  show words1.all (fun c => c.before args0 about1) = true
  refine all_split ?_ w_codes
  rw [w_t1]
set_option maxRecDepth 65536 in
theorem w_case : (Jvm.Cond.and given_1 narrow_1).before args0 about1 = true := by decide +kernel
theorem w_applies : (headSpec (Jvm.Cond.code x code maxLocals ret :: tables_1) room_1).applies x e0.platform about1 = true :=
  (Spec.applies_iff w_frames).mpr ⟨w_running, w_runnable, w_alone, w_named, w_hears, w_ripe, w_room, w_tables⟩
theorem atStart : AtStart classFile x code maxLocals ret World_1 tables_1 room_1 Calls_1 rest_1 Pre_1 launch0 p0 e0 about1 theMethod args0 below0 :=
  ⟨lists_1, trivial, launch0.admits_env _ _ _, launch0.least_env, fairChoices_fair.cas, fairChoices_fair.clock, w_frames, w_args, w_heap, w_applies, trivial, trivial, w_case⟩
end start1
theorem witness_1 : WitnessClaimed_1 := ⟨start1.p0, start1.e0, start1.about1, start1.theMethod, start1.args0, start1.below0, start1.atStart⟩
end Jvm.Pilot.@@N@@
