import JvmDerived
import JvmDerived.Pilot.@@N@@Statement
import JvmDerived.Pilot.@@N@@Code
set_option linter.unusedVariables false
set_option linter.unusedSimpArgs false
namespace Jvm.Pilot.@@N@@
open Jvm Jvm.ClassFile Sem Op Lib Jvm.Free Jvm.Stand Jvm.LawKit Jvm.RoadKit Bundle Jvm.Pilot.@@N@@.Jvm.D
section Own
theorem cut {P G : Prop} (f : P → G) (g : P) : G := f g
theorem ha_ge {h0 h : Heap} {a : Addr} (q : h0.size ≤ h.size) (e : a = h.size) : h0.size ≤ a := by rw [e]; exact q
/-- what stands fixed in one invocation's walk -/
abbrev Ev : Type := Program × Launch × Env × Room × State × MethodId × Array Value × List Frame × Method × Code × Nat × (Option Value → Heap → Prop)
def Dc (bytes : ByteArray) (pc : Nat) (i : Instr) (len pc' : Nat) : Prop := decode bytes pc = .ok (i, len) ∧ pc + len = pc'
def Db (bytes : ByteArray) (pc : Nat) (i : Instr) (o : Int) (pc1 pc2 : Nat) : Prop := decode bytes pc = .ok (i, 3) ∧ pc + 3 = pc1 ∧ 0 ≤ (pc : Int) + o ∧ ((pc : Int) + o).toNat = pc2
/-- from this heap, these counts, pc, locals and stack the invocation comes to a return of which its Q holds -/
def Wk : Ev → Heap → Nat → Nat → Nat → Array Slot → List Value → Prop
  | (p, l, e, R, s, m, args, below, meth, c, n0, Q), h, kc, kn, pc, ls, st => ∀ (T : State) (locs : List Loc), Stand p l e R s m args below meth c T locs kc kn → T.heap = h → Fr n0 locs →
    ∃ s₂ o, Steps p.tables e below (T.setTop (mkF m pc ls st)) s₂ ∧ s₂.status = .running ∧ Ended s₂ below o ∧ ∃ v L, o = .returned v ∧ (Q v s₂.heap ∧ Fr n0 L) ∧ FrameEnd s o s₂ L R.cells R.slots
def Kf (p : Program) (s : State) (m : MethodId) (meth : Method) (c : Code) (y : MethodName) (bytes : ByteArray) (ml : Nat) (rt : Option FieldType) (Z : State) (n0 : Nat) : Prop :=
  p.tables.exec = Jvm.exec ∧ c.code = bytes ∧ c.maxLocals = ml ∧ meth.sig.returnType = rt ∧ meth.locks = false ∧ Z.Warmed39 s.vm ∧ s.vm.findClass y.cls = some m.cls ∧ meth.name = y.name ∧ n0 ≤ s.heap.size
def Kx (E : Ev) (y : MethodName) (bytes : ByteArray) (ml : Nat) (rt : Option FieldType) (l : Launch) (Z : State) (R : Room) (n0 : Nat) (Q : Option Value → Heap → Prop) : Prop :=
  ∃ p e s m args below meth c, E = (p, l, e, R, s, m, args, below, meth, c, n0, Q) ∧ Kf p s m meth c y bytes ml rt Z n0
/-- a callee's contract at one heap and one row of arguments -/
def Con (l : Launch) (Z : State) (y : MethodName) (bytes : ByteArray) (ml : Nat) (rt : Option FieldType) (rm : Room) (as : Array Value) (h : Heap) (n0 : Nat) (Q : Option Value → Heap → Prop) : Prop :=
  n0 ≤ h.size → ∀ ws : List Jvm.Cond, MetFree l y (head1 (Jvm.Cond.code y bytes ml rt :: ws) rm) (fun a U => a = as ∧ Z.Warmed39 U.vm ∧ U.heap = h) (fun _ _ _ _ _ => True) (fun _ U o U' => ∃ v L, o = .returned v ∧ (Q v U'.heap ∧ Fr n0 L) ∧ FrameEnd U o U' L rm.cells rm.slots)
variable {E : Ev} {y : MethodName} {bytes : ByteArray} {ml : Nat} {rt : Option FieldType} {l : Launch} {Z : State} {R : Room} {n0 : Nat} {Q : Option Value → Heap → Prop} {a0 : Array Value} {h h' : Heap} {kc kn kc' kn' pc pc' pc1 pc2 : Nat} {ls ls' : Array Slot} {st : List Value} {a b : Addr}
theorem Con.of (pn : plainFor y = true) {as : Array Value} {rm : Room} (ef : ∀ m, entryFrame m as ml = mkF m 0 ls []) (body : ∀ E : Ev, Kx E y bytes ml rt l Z rm n0 Q → Wk E h 0 0 0 ls []) : Con l Z y bytes ml rt rm as h n0 Q := by
  intro hn ws
  refine MetFree.of_bodySF pn hisR ?_
  intro p e s m args below meth c s₁ Bd hml0 hP hK
  obtain ⟨ha, hZ, hh⟩ := hP
  subst ha
  have X0 : Stand p l e rm s m args below meth c s₁ [] 0 0 := Stand.of_body Bd
  have e0 : s₁.heap = h := by rw [← hh, Bd.state]; rfl
  obtain ⟨s₂, o, q, r⟩ := body (p, l, e, rm, s, m, args, below, meth, c, n0, Q) ⟨p, e, s, m, args, below, meth, c, rfl, Bd.exec, Bd.bytes, hml0, Bd.returns, Bd.notSynchronized, hZ, findClass_of_methodNamed Bd.named, (name_of_methodNamed Bd.named Bd.method).1, by rw [hh]; exact hn⟩ s₁ [] X0 e0 (Fr.nil n0)
  exact ⟨s₂, o, castTop (ef m) q, r⟩
theorem Kx.lift {st' : List Value} (K : Kx E y bytes ml rt l Z R n0 Q) (f : ∀ (p : Program) (e : Env) (s : State) (m : MethodId) (args : Array Value) (below : List Frame) (meth : Method) (c : Code), Kf p s m meth c y bytes ml rt Z n0 → ∀ (T : State) (locs : List Loc), Stand p l e R s m args below meth c T locs kc kn → T.heap = h → ∀ t, Steps p.tables e below (T.setTop (mkF m pc' ls' st)) t → Steps p.tables e below (T.setTop (mkF m pc ls st')) t) (k : Wk E h kc kn pc' ls' st) : Wk E h kc kn pc ls st' := by
  obtain ⟨p, e, s, m, args, below, meth, c, rfl, F⟩ := K
  intro T locs X eT N
  obtain ⟨s₂, o, q, r⟩ := k T locs X eT N
  exact ⟨s₂, o, f p e s m args below meth c F T locs X eT s₂ q, r⟩
theorem Kx.move (K : Kx E y bytes ml rt l Z R n0 Q) (f : ∀ (p : Program) (e : Env) (s : State) (m : MethodId) (args : Array Value) (below : List Frame) (meth : Method) (c : Code), Kf p s m meth c y bytes ml rt Z n0 → ∀ (T : State) (locs : List Loc), Stand p l e R s m args below meth c T locs kc kn → T.heap = h → Fr n0 locs →
    ∃ (T' : State) (locs' : List Loc) (h' : Heap) (kc' kn' pc' : Nat) (ls' : Array Slot) (st' : List Value), Stand p l e R s m args below meth c T' locs' kc' kn' ∧ T'.heap = h' ∧ Fr n0 locs' ∧ h.size ≤ h'.size ∧ Wk E h' kc' kn' pc' ls' st' ∧ ∀ t, Steps p.tables e below (T'.setTop (mkF m pc' ls' st')) t → Steps p.tables e below (T.setTop (mkF m pc ls st)) t) : Wk E h kc kn pc ls st := by
  obtain ⟨p, e, s, m, args, below, meth, c, rfl, F⟩ := K
  intro T locs X eT N
  obtain ⟨T', locs', h', kc', kn', pc', ls', st', X', e', N', -, k, q'⟩ := f p e s m args below meth c F T locs X eT N
  obtain ⟨s₂, o, q, r⟩ := k T' locs' X' e' N'
  exact ⟨s₂, o, q' _ q, r⟩

theorem Kx.aloadN (K : Kx E y bytes ml rt l Z R n0 Q) {k : Fin 4} {v : Value} (hd : Dc bytes pc (.aload_n k) 1 pc') (hl : ls[k.val]? = some (.val v)) (hv : v.isRef = true) (k : Wk E h kc kn pc' ls (v :: st)) : Wk E h kc kn pc ls st := by
  obtain ⟨hd, rfl⟩ := hd
  exact K.lift (fun p e s m args below meth c F T locs X eT t q => XS.aloadN X.here F.1 rfl (hb F.2.1 hd) hl hv q) k
theorem Kx.iloadN (K : Kx E y bytes ml rt l Z R n0 Q) {k : Fin 4} {v : Int32} (hd : Dc bytes pc (.iload_n k) 1 pc') (hl : ls[k.val]? = some (.val (.int v))) (k : Wk E h kc kn pc' ls (.int v :: st)) : Wk E h kc kn pc ls st := by
  obtain ⟨hd, rfl⟩ := hd
  exact K.lift (fun p e s m args below meth c F T locs X eT t q => XS.iloadN X.here F.1 rfl (hb F.2.1 hd) hl q) k
theorem Kx.lloadN (K : Kx E y bytes ml rt l Z R n0 Q) {k : Fin 4} {v : Int64} (hd : Dc bytes pc (.lload_n k) 1 pc') (hl : ls[k.val]? = some (.val (.long v))) (k : Wk E h kc kn pc' ls (.long v :: st)) : Wk E h kc kn pc ls st := by
  obtain ⟨hd, rfl⟩ := hd
  exact K.lift (fun p e s m args below meth c F T locs X eT t q => XS.lloadN X.here F.1 rfl (hb F.2.1 hd) hl q) k
theorem Kx.istoreN (K : Kx E y bytes ml rt l Z R n0 Q) {k : Fin 4} {x : Int32} (ls' : Array Slot) (hd : Dc bytes pc (.istore_n k) 1 pc') (hl : storeLocals ls k.val (.int x) = some ls') (k : Wk E h kc kn pc' ls' st) : Wk E h kc kn pc ls (.int x :: st) := by
  obtain ⟨hd, rfl⟩ := hd
  exact K.lift (fun p e s m args below meth c F T locs X eT t q => XS.istoreN X.here F.1 rfl (hb F.2.1 hd) rfl hl q) k
theorem Kx.lstoreN (K : Kx E y bytes ml rt l Z R n0 Q) {k : Fin 4} {x : Int64} (ls' : Array Slot) (hd : Dc bytes pc (.lstore_n k) 1 pc') (hl : storeLocals ls k.val (.long x) = some ls') (k : Wk E h kc kn pc' ls' st) : Wk E h kc kn pc ls (.long x :: st) := by
  obtain ⟨hd, rfl⟩ := hd
  exact K.lift (fun p e s m args below meth c F T locs X eT t q => XS.lstoreN X.here F.1 rfl (hb F.2.1 hd) rfl hl q) k
theorem Kx.astoreN (K : Kx E y bytes ml rt l Z R n0 Q) {k : Fin 4} {x : Value} (ls' : Array Slot) (hd : Dc bytes pc (.astore_n k) 1 pc') (hv : x.isRef = true) (hl : storeLocals ls k.val x = some ls') (k : Wk E h kc kn pc' ls' st) : Wk E h kc kn pc ls (x :: st) := by
  obtain ⟨hd, rfl⟩ := hd
  exact K.lift (fun p e s m args below meth c F T locs X eT t q => XS.astoreN X.here F.1 rfl (hb F.2.1 hd) rfl hv hl q) k
theorem Kx.aload (K : Kx E y bytes ml rt l Z R n0 Q) {k : Nat} {v : Value} (hd : Dc bytes pc (.aload k) 2 pc') (hl : ls[k]? = some (.val v)) (hv : v.isRef = true) (k : Wk E h kc kn pc' ls (v :: st)) : Wk E h kc kn pc ls st := by
  obtain ⟨hd, rfl⟩ := hd
  exact K.lift (fun p e s m args below meth c F T locs X eT t q => XS.aload X.here F.1 rfl (hb F.2.1 hd) hl hv q) k
theorem Kx.iload (K : Kx E y bytes ml rt l Z R n0 Q) {k : Nat} {v : Int32} (hd : Dc bytes pc (.iload k) 2 pc') (hl : ls[k]? = some (.val (.int v))) (k : Wk E h kc kn pc' ls (.int v :: st)) : Wk E h kc kn pc ls st := by
  obtain ⟨hd, rfl⟩ := hd
  exact K.lift (fun p e s m args below meth c F T locs X eT t q => XS.iload X.here F.1 rfl (hb F.2.1 hd) hl q) k
theorem Kx.lload (K : Kx E y bytes ml rt l Z R n0 Q) {k : Nat} {v : Int64} (hd : Dc bytes pc (.lload k) 2 pc') (hl : ls[k]? = some (.val (.long v))) (k : Wk E h kc kn pc' ls (.long v :: st)) : Wk E h kc kn pc ls st := by
  obtain ⟨hd, rfl⟩ := hd
  exact K.lift (fun p e s m args below meth c F T locs X eT t q => XS.lload X.here F.1 rfl (hb F.2.1 hd) hl q) k
theorem Kx.istore (K : Kx E y bytes ml rt l Z R n0 Q) {k : Nat} {x : Int32} (ls' : Array Slot) (hd : Dc bytes pc (.istore k) 2 pc') (hl : storeLocals ls k (.int x) = some ls') (k : Wk E h kc kn pc' ls' st) : Wk E h kc kn pc ls (.int x :: st) := by
  obtain ⟨hd, rfl⟩ := hd
  exact K.lift (fun p e s m args below meth c F T locs X eT t q => XS.istore X.here F.1 rfl (hb F.2.1 hd) rfl hl q) k
theorem Kx.lstore (K : Kx E y bytes ml rt l Z R n0 Q) {k : Nat} {x : Int64} (ls' : Array Slot) (hd : Dc bytes pc (.lstore k) 2 pc') (hl : storeLocals ls k (.long x) = some ls') (k : Wk E h kc kn pc' ls' st) : Wk E h kc kn pc ls (.long x :: st) := by
  obtain ⟨hd, rfl⟩ := hd
  exact K.lift (fun p e s m args below meth c F T locs X eT t q => XS.lstore X.here F.1 rfl (hb F.2.1 hd) rfl hl q) k
theorem Kx.astore (K : Kx E y bytes ml rt l Z R n0 Q) {k : Nat} {x : Value} (ls' : Array Slot) (hd : Dc bytes pc (.astore k) 2 pc') (hv : x.isRef = true) (hl : storeLocals ls k x = some ls') (k : Wk E h kc kn pc' ls' st) : Wk E h kc kn pc ls (x :: st) := by
  obtain ⟨hd, rfl⟩ := hd
  exact K.lift (fun p e s m args below meth c F T locs X eT t q => XS.astore X.here F.1 rfl (hb F.2.1 hd) rfl hv hl q) k
theorem Kx.iinc (K : Kx E y bytes ml rt l Z R n0 Q) {k : Nat} {cst : Int} {x : Int32} (z : Int32) (ls' : Array Slot) (hd : Dc bytes pc (.iinc k cst) 3 pc') (hl : ls[k]? = some (.val (.int x))) (hz : x + Int32.ofInt cst = z) (hl' : storeLocals ls k (.int z) = some ls') (k : Wk E h kc kn pc' ls' st) : Wk E h kc kn pc ls st := by
  obtain ⟨hd, rfl⟩ := hd
  exact K.lift (fun p e s m args below meth c F T locs X eT t q => XS.iinc X.here F.1 rfl (hb F.2.1 hd) hl (by rw [hz]; exact hl') q) k
theorem Kx.iconst (K : Kx E y bytes ml rt l Z R n0 Q) {i : Int} (z : Int32) (hd : Dc bytes pc (.iconst i) 1 pc') (hz : Int32.ofInt i = z) (k : Wk E h kc kn pc' ls (.int z :: st)) : Wk E h kc kn pc ls st := by
  obtain ⟨hd, rfl⟩ := hd
  exact K.lift (fun p e s m args below meth c F T locs X eT t q => XS.iconst X.here F.1 rfl (hb F.2.1 hd) (by rw [hz]; exact q)) k
theorem Kx.lconst (K : Kx E y bytes ml rt l Z R n0 Q) {i : Fin 2} (z : Int64) (hd : Dc bytes pc (.lconst i) 1 pc') (hz : Int64.ofNat i = z) (k : Wk E h kc kn pc' ls (.long z :: st)) : Wk E h kc kn pc ls st := by
  obtain ⟨hd, rfl⟩ := hd
  exact K.lift (fun p e s m args below meth c F T locs X eT t q => XS.lconst X.here F.1 rfl (hb F.2.1 hd) (by rw [hz]; exact q)) k
theorem Kx.bipush (K : Kx E y bytes ml rt l Z R n0 Q) {i : Int} (z : Int32) (hd : Dc bytes pc (.bipush i) 2 pc') (hz : (Int8.ofInt i).toInt32 = z) (k : Wk E h kc kn pc' ls (.int z :: st)) : Wk E h kc kn pc ls st := by
  obtain ⟨hd, rfl⟩ := hd
  exact K.lift (fun p e s m args below meth c F T locs X eT t q => XS.bipush X.here F.1 rfl (hb F.2.1 hd) (by rw [hz]; exact q)) k
theorem Kx.sipush (K : Kx E y bytes ml rt l Z R n0 Q) {i : Int} (z : Int32) (hd : Dc bytes pc (.sipush i) 3 pc') (hz : (Int16.ofInt i).toInt32 = z) (k : Wk E h kc kn pc' ls (.int z :: st)) : Wk E h kc kn pc ls st := by
  obtain ⟨hd, rfl⟩ := hd
  exact K.lift (fun p e s m args below meth c F T locs X eT t q => XS.sipush X.here F.1 rfl (hb F.2.1 hd) (by rw [hz]; exact q)) k
theorem Kx.aconst_null (K : Kx E y bytes ml rt l Z R n0 Q)  (hd : Dc bytes pc .aconst_null 1 pc') (k : Wk E h kc kn pc' ls (.null :: st)) : Wk E h kc kn pc ls st := by
  obtain ⟨hd, rfl⟩ := hd
  exact K.lift (fun p e s m args below meth c F T locs X eT t q => XS.aconstNull X.here F.1 rfl (hb F.2.1 hd) q) k
theorem Kx.iadd (K : Kx E y bytes ml rt l Z R n0 Q) {x y' : Int32} (hd : Dc bytes pc .iadd 1 pc') (k : Wk E h kc kn pc' ls (.int (x + y') :: st)) : Wk E h kc kn pc ls (.int y' :: .int x :: st) := by
  obtain ⟨hd, rfl⟩ := hd
  exact K.lift (fun p e s m args below meth c F T locs X eT t q => XS.iadd X.here F.1 rfl (hb F.2.1 hd) rfl q) k
theorem Kx.isub (K : Kx E y bytes ml rt l Z R n0 Q) {x y' : Int32} (hd : Dc bytes pc .isub 1 pc') (k : Wk E h kc kn pc' ls (.int (x - y') :: st)) : Wk E h kc kn pc ls (.int y' :: .int x :: st) := by
  obtain ⟨hd, rfl⟩ := hd
  exact K.lift (fun p e s m args below meth c F T locs X eT t q => XS.isub X.here F.1 rfl (hb F.2.1 hd) rfl q) k
theorem Kx.imul (K : Kx E y bytes ml rt l Z R n0 Q) {x y' : Int32} (hd : Dc bytes pc .imul 1 pc') (k : Wk E h kc kn pc' ls (.int (x * y') :: st)) : Wk E h kc kn pc ls (.int y' :: .int x :: st) := by
  obtain ⟨hd, rfl⟩ := hd
  exact K.lift (fun p e s m args below meth c F T locs X eT t q => XS.imul X.here F.1 rfl (hb F.2.1 hd) rfl q) k
theorem Kx.iand (K : Kx E y bytes ml rt l Z R n0 Q) {x y' : Int32} (hd : Dc bytes pc .iand 1 pc') (k : Wk E h kc kn pc' ls (.int (x &&& y') :: st)) : Wk E h kc kn pc ls (.int y' :: .int x :: st) := by
  obtain ⟨hd, rfl⟩ := hd
  exact K.lift (fun p e s m args below meth c F T locs X eT t q => XS.iand X.here F.1 rfl (hb F.2.1 hd) rfl q) k
theorem Kx.ior (K : Kx E y bytes ml rt l Z R n0 Q) {x y' : Int32} (hd : Dc bytes pc .ior 1 pc') (k : Wk E h kc kn pc' ls (.int (x ||| y') :: st)) : Wk E h kc kn pc ls (.int y' :: .int x :: st) := by
  obtain ⟨hd, rfl⟩ := hd
  exact K.lift (fun p e s m args below meth c F T locs X eT t q => XS.ior X.here F.1 rfl (hb F.2.1 hd) rfl q) k
theorem Kx.ixor (K : Kx E y bytes ml rt l Z R n0 Q) {x y' : Int32} (hd : Dc bytes pc .ixor 1 pc') (k : Wk E h kc kn pc' ls (.int (x ^^^ y') :: st)) : Wk E h kc kn pc ls (.int y' :: .int x :: st) := by
  obtain ⟨hd, rfl⟩ := hd
  exact K.lift (fun p e s m args below meth c F T locs X eT t q => XS.ixor X.here F.1 rfl (hb F.2.1 hd) rfl q) k
theorem Kx.ishl (K : Kx E y bytes ml rt l Z R n0 Q) {x y' : Int32} (hd : Dc bytes pc .ishl 1 pc') (k : Wk E h kc kn pc' ls (.int (x <<< (y' &&& 31)) :: st)) : Wk E h kc kn pc ls (.int y' :: .int x :: st) := by
  obtain ⟨hd, rfl⟩ := hd
  exact K.lift (fun p e s m args below meth c F T locs X eT t q => XS.ishl X.here F.1 rfl (hb F.2.1 hd) rfl q) k
theorem Kx.ishr (K : Kx E y bytes ml rt l Z R n0 Q) {x y' : Int32} (hd : Dc bytes pc .ishr 1 pc') (k : Wk E h kc kn pc' ls (.int (x >>> (y' &&& 31)) :: st)) : Wk E h kc kn pc ls (.int y' :: .int x :: st) := by
  obtain ⟨hd, rfl⟩ := hd
  exact K.lift (fun p e s m args below meth c F T locs X eT t q => XS.ishr X.here F.1 rfl (hb F.2.1 hd) rfl q) k
theorem Kx.iushr (K : Kx E y bytes ml rt l Z R n0 Q) {x y' : Int32} (hd : Dc bytes pc .iushr 1 pc') (k : Wk E h kc kn pc' ls (.int ((x.toUInt32 >>> (y' &&& 31).toUInt32).toInt32) :: st)) : Wk E h kc kn pc ls (.int y' :: .int x :: st) := by
  obtain ⟨hd, rfl⟩ := hd
  exact K.lift (fun p e s m args below meth c F T locs X eT t q => XS.iushr X.here F.1 rfl (hb F.2.1 hd) rfl q) k
theorem Kx.ladd (K : Kx E y bytes ml rt l Z R n0 Q) {x y' : Int64} (hd : Dc bytes pc .ladd 1 pc') (k : Wk E h kc kn pc' ls (.long (x + y') :: st)) : Wk E h kc kn pc ls (.long y' :: .long x :: st) := by
  obtain ⟨hd, rfl⟩ := hd
  exact K.lift (fun p e s m args below meth c F T locs X eT t q => XS.ladd X.here F.1 rfl (hb F.2.1 hd) rfl q) k
theorem Kx.lsub (K : Kx E y bytes ml rt l Z R n0 Q) {x y' : Int64} (hd : Dc bytes pc .lsub 1 pc') (k : Wk E h kc kn pc' ls (.long (x - y') :: st)) : Wk E h kc kn pc ls (.long y' :: .long x :: st) := by
  obtain ⟨hd, rfl⟩ := hd
  exact K.lift (fun p e s m args below meth c F T locs X eT t q => XS.lsub X.here F.1 rfl (hb F.2.1 hd) rfl q) k
theorem Kx.lmul (K : Kx E y bytes ml rt l Z R n0 Q) {x y' : Int64} (hd : Dc bytes pc .lmul 1 pc') (k : Wk E h kc kn pc' ls (.long (x * y') :: st)) : Wk E h kc kn pc ls (.long y' :: .long x :: st) := by
  obtain ⟨hd, rfl⟩ := hd
  exact K.lift (fun p e s m args below meth c F T locs X eT t q => XS.lmul X.here F.1 rfl (hb F.2.1 hd) rfl q) k
theorem Kx.land (K : Kx E y bytes ml rt l Z R n0 Q) {x y' : Int64} (hd : Dc bytes pc .land 1 pc') (k : Wk E h kc kn pc' ls (.long (x &&& y') :: st)) : Wk E h kc kn pc ls (.long y' :: .long x :: st) := by
  obtain ⟨hd, rfl⟩ := hd
  exact K.lift (fun p e s m args below meth c F T locs X eT t q => XS.land X.here F.1 rfl (hb F.2.1 hd) rfl q) k
theorem Kx.lor (K : Kx E y bytes ml rt l Z R n0 Q) {x y' : Int64} (hd : Dc bytes pc .lor 1 pc') (k : Wk E h kc kn pc' ls (.long (x ||| y') :: st)) : Wk E h kc kn pc ls (.long y' :: .long x :: st) := by
  obtain ⟨hd, rfl⟩ := hd
  exact K.lift (fun p e s m args below meth c F T locs X eT t q => XS.lor X.here F.1 rfl (hb F.2.1 hd) rfl q) k
theorem Kx.lxor (K : Kx E y bytes ml rt l Z R n0 Q) {x y' : Int64} (hd : Dc bytes pc .lxor 1 pc') (k : Wk E h kc kn pc' ls (.long (x ^^^ y') :: st)) : Wk E h kc kn pc ls (.long y' :: .long x :: st) := by
  obtain ⟨hd, rfl⟩ := hd
  exact K.lift (fun p e s m args below meth c F T locs X eT t q => XS.lxor X.here F.1 rfl (hb F.2.1 hd) rfl q) k
theorem Kx.lshl (K : Kx E y bytes ml rt l Z R n0 Q) {x : Int64} {y' : Int32} (hd : Dc bytes pc .lshl 1 pc') (k : Wk E h kc kn pc' ls (.long (x <<< (y' &&& 63).toInt64) :: st)) : Wk E h kc kn pc ls (.int y' :: .long x :: st) := by
  obtain ⟨hd, rfl⟩ := hd
  exact K.lift (fun p e s m args below meth c F T locs X eT t q => XS.lshl X.here F.1 rfl (hb F.2.1 hd) rfl q) k
theorem Kx.lshr (K : Kx E y bytes ml rt l Z R n0 Q) {x : Int64} {y' : Int32} (hd : Dc bytes pc .lshr 1 pc') (k : Wk E h kc kn pc' ls (.long (x >>> (y' &&& 63).toInt64) :: st)) : Wk E h kc kn pc ls (.int y' :: .long x :: st) := by
  obtain ⟨hd, rfl⟩ := hd
  exact K.lift (fun p e s m args below meth c F T locs X eT t q => XS.lshr X.here F.1 rfl (hb F.2.1 hd) rfl q) k
theorem Kx.lushr (K : Kx E y bytes ml rt l Z R n0 Q) {x : Int64} {y' : Int32} (hd : Dc bytes pc .lushr 1 pc') (k : Wk E h kc kn pc' ls (.long ((x.toUInt64 >>> (y' &&& 63).toInt64.toUInt64).toInt64) :: st)) : Wk E h kc kn pc ls (.int y' :: .long x :: st) := by
  obtain ⟨hd, rfl⟩ := hd
  exact K.lift (fun p e s m args below meth c F T locs X eT t q => XS.lushr X.here F.1 rfl (hb F.2.1 hd) rfl q) k
theorem Kx.idiv (K : Kx E y bytes ml rt l Z R n0 Q) {x y' : Int32} (hd : Dc bytes pc .idiv 1 pc') (hy : y' ≠ 0) (k : Wk E h kc kn pc' ls (.int (x / y') :: st)) : Wk E h kc kn pc ls (.int y' :: .int x :: st) := by
  obtain ⟨hd, rfl⟩ := hd
  exact K.lift (fun p e s m args below meth c F T locs X eT t q => XS.idiv X.here F.1 rfl (hb F.2.1 hd) rfl hy q) k
theorem Kx.irem (K : Kx E y bytes ml rt l Z R n0 Q) {x y' : Int32} (hd : Dc bytes pc .irem 1 pc') (hy : y' ≠ 0) (k : Wk E h kc kn pc' ls (.int (x % y') :: st)) : Wk E h kc kn pc ls (.int y' :: .int x :: st) := by
  obtain ⟨hd, rfl⟩ := hd
  exact K.lift (fun p e s m args below meth c F T locs X eT t q => RoadKit.iremM X F.1 rfl (hb F.2.1 hd) rfl hy q) k
theorem Kx.ldiv (K : Kx E y bytes ml rt l Z R n0 Q) {x y' : Int64} (hd : Dc bytes pc .ldiv 1 pc') (hy : y' ≠ 0) (k : Wk E h kc kn pc' ls (.long (x / y') :: st)) : Wk E h kc kn pc ls (.long y' :: .long x :: st) := by
  obtain ⟨hd, rfl⟩ := hd
  exact K.lift (fun p e s m args below meth c F T locs X eT t q => XS.ldiv X.here F.1 rfl (hb F.2.1 hd) rfl hy q) k
theorem Kx.lrem (K : Kx E y bytes ml rt l Z R n0 Q) {x y' : Int64} (hd : Dc bytes pc .lrem 1 pc') (hy : y' ≠ 0) (k : Wk E h kc kn pc' ls (.long (x % y') :: st)) : Wk E h kc kn pc ls (.long y' :: .long x :: st) := by
  obtain ⟨hd, rfl⟩ := hd
  exact K.lift (fun p e s m args below meth c F T locs X eT t q => XS.lrem X.here F.1 rfl (hb F.2.1 hd) rfl hy (by rw [lrem_mod]; exact q)) k
theorem Kx.ineg (K : Kx E y bytes ml rt l Z R n0 Q) {x : Int32} (hd : Dc bytes pc .ineg 1 pc') (k : Wk E h kc kn pc' ls (.int (-x) :: st)) : Wk E h kc kn pc ls (.int x :: st) := by
  obtain ⟨hd, rfl⟩ := hd
  exact K.lift (fun p e s m args below meth c F T locs X eT t q => XS.ineg X.here F.1 rfl (hb F.2.1 hd) rfl q) k
theorem Kx.lneg (K : Kx E y bytes ml rt l Z R n0 Q) {x : Int64} (hd : Dc bytes pc .lneg 1 pc') (k : Wk E h kc kn pc' ls (.long (-x) :: st)) : Wk E h kc kn pc ls (.long x :: st) := by
  obtain ⟨hd, rfl⟩ := hd
  exact K.lift (fun p e s m args below meth c F T locs X eT t q => XS.lneg X.here F.1 rfl (hb F.2.1 hd) rfl q) k
theorem Kx.i2l (K : Kx E y bytes ml rt l Z R n0 Q) {x : Int32} (hd : Dc bytes pc .i2l 1 pc') (k : Wk E h kc kn pc' ls (.long (x.toInt64) :: st)) : Wk E h kc kn pc ls (.int x :: st) := by
  obtain ⟨hd, rfl⟩ := hd
  exact K.lift (fun p e s m args below meth c F T locs X eT t q => XS.i2l X.here F.1 rfl (hb F.2.1 hd) rfl q) k
theorem Kx.l2i (K : Kx E y bytes ml rt l Z R n0 Q) {x : Int64} (hd : Dc bytes pc .l2i 1 pc') (k : Wk E h kc kn pc' ls (.int (x.toInt32) :: st)) : Wk E h kc kn pc ls (.long x :: st) := by
  obtain ⟨hd, rfl⟩ := hd
  exact K.lift (fun p e s m args below meth c F T locs X eT t q => XS.l2i X.here F.1 rfl (hb F.2.1 hd) rfl q) k
theorem Kx.i2b (K : Kx E y bytes ml rt l Z R n0 Q) {x : Int32} (hd : Dc bytes pc .i2b 1 pc') (k : Wk E h kc kn pc' ls (.int (x.toInt8.toInt32) :: st)) : Wk E h kc kn pc ls (.int x :: st) := by
  obtain ⟨hd, rfl⟩ := hd
  exact K.lift (fun p e s m args below meth c F T locs X eT t q => XS.i2b X.here F.1 rfl (hb F.2.1 hd) rfl q) k
theorem Kx.i2c (K : Kx E y bytes ml rt l Z R n0 Q) {x : Int32} (hd : Dc bytes pc .i2c 1 pc') (k : Wk E h kc kn pc' ls (.int (x.toUInt32.toUInt16.toUInt32.toInt32) :: st)) : Wk E h kc kn pc ls (.int x :: st) := by
  obtain ⟨hd, rfl⟩ := hd
  exact K.lift (fun p e s m args below meth c F T locs X eT t q => XS.i2c X.here F.1 rfl (hb F.2.1 hd) rfl q) k
theorem Kx.i2s (K : Kx E y bytes ml rt l Z R n0 Q) {x : Int32} (hd : Dc bytes pc .i2s 1 pc') (k : Wk E h kc kn pc' ls (.int (x.toInt16.toInt32) :: st)) : Wk E h kc kn pc ls (.int x :: st) := by
  obtain ⟨hd, rfl⟩ := hd
  exact K.lift (fun p e s m args below meth c F T locs X eT t q => XS.i2s X.here F.1 rfl (hb F.2.1 hd) rfl q) k
theorem Kx.dup (K : Kx E y bytes ml rt l Z R n0 Q) {x : Value} (hd : Dc bytes pc .dup 1 pc') (hc : x.category = 1) (k : Wk E h kc kn pc' ls (x :: x :: st)) : Wk E h kc kn pc ls (x :: st) := by
  obtain ⟨hd, rfl⟩ := hd
  exact K.lift (fun p e s m args below meth c F T locs X eT t q => XS.dup X.here F.1 rfl (hb F.2.1 hd) rfl hc q) k
theorem Kx.pop (K : Kx E y bytes ml rt l Z R n0 Q) {x : Value} (hd : Dc bytes pc .pop 1 pc') (hc : x.category = 1) (k : Wk E h kc kn pc' ls st) : Wk E h kc kn pc ls (x :: st) := by
  obtain ⟨hd, rfl⟩ := hd
  exact K.lift (fun p e s m args below meth c F T locs X eT t q => XS.pop X.here F.1 rfl (hb F.2.1 hd) rfl hc q) k
theorem Kx.dup_x1 (K : Kx E y bytes ml rt l Z R n0 Q) {x x' : Value} (hd : Dc bytes pc .dup_x1 1 pc') (hc : x.category = 1) (hc' : x'.category = 1) (k : Wk E h kc kn pc' ls (x :: x' :: x :: st)) : Wk E h kc kn pc ls (x :: x' :: st) := by
  obtain ⟨hd, rfl⟩ := hd
  exact K.lift (fun p e s m args below meth c F T locs X eT t q => XS.dupX1 X.here F.1 rfl (hb F.2.1 hd) rfl hc hc' q) k
theorem Kx.dup2 (K : Kx E y bytes ml rt l Z R n0 Q) {x x' : Value} (hd : Dc bytes pc .dup2 1 pc') (hc : x.category = 1) (hc' : x'.category = 1) (k : Wk E h kc kn pc' ls (x :: x' :: x :: x' :: st)) : Wk E h kc kn pc ls (x :: x' :: st) := by
  obtain ⟨hd, rfl⟩ := hd
  exact K.lift (fun p e s m args below meth c F T locs X eT t q => Jvm.Free.XT.dup2 X.here F.1 rfl (hb F.2.1 hd) rfl hc hc' q) k
theorem Kx.ldcI (K : Kx E y bytes ml rt l Z R n0 Q) {i : Nat} {v : Int32} (hd : Dc bytes pc (.ldc i) 2 pc') (w : (Jvm.Cond.constant y.cls i v).before a0 Z = true) (k : Wk E h kc kn pc' ls (.int v :: st)) : Wk E h kc kn pc ls st := by
  obtain ⟨hd, rfl⟩ := hd
  exact K.lift (fun p e s m args below meth c F T locs X eT t q => X.ldcI F.1 F.2.2.2.2.2.2.1 (mvT F.2.2.2.2.2.1 w) rfl (hb F.2.1 hd) q) k
theorem Kx.ldc2J (K : Kx E y bytes ml rt l Z R n0 Q) {i : Nat} {v : Int64} (hd : Dc bytes pc (.ldc2_w i) 3 pc') (w : (Jvm.Cond.constantLong y.cls i v).before a0 Z = true) (k : Wk E h kc kn pc' ls (.long v :: st)) : Wk E h kc kn pc ls st := by
  obtain ⟨hd, rfl⟩ := hd
  exact K.lift (fun p e s m args below meth c F T locs X eT t q => X.ldc2J F.1 F.2.2.2.2.2.2.1 (mvT F.2.2.2.2.2.1 w) rfl (hb F.2.1 hd) q) k
theorem Kx.goto (K : Kx E y bytes ml rt l Z R n0 Q) {o : Int} (hd : Db bytes pc (.goto o) o pc1 pc2) (k : Wk E h kc kn pc2 ls st) : Wk E h kc kn pc ls st := by
  obtain ⟨hd, -, h0, h1⟩ := hd
  exact K.lift (fun p e s m args below meth c F T locs X eT t q => XS.goto X.here F.1 rfl rfl (hb F.2.1 hd) h0 h1 q) k
theorem Kx.ic_eq (K : Kx E y bytes ml rt l Z R n0 Q) {o : Int} {x y' : Int32} (hd : Db bytes pc (.if_icmp .eq o) o pc1 pc2) (k1 : x = y' → Wk E h kc kn pc2 ls st) (k2 : ¬ x = y' → Wk E h kc kn pc1 ls st) : Wk E h kc kn pc ls (.int y' :: .int x :: st) := by
  obtain ⟨hd, rfl, h0, h1⟩ := hd
  by_cases u : x = y'
  · exact K.lift (fun p e s m args below meth c F T locs X eT t q => XS.icmpYes X.here F.1 rfl rfl (hb F.2.1 hd) rfl (teq u).1 h0 h1 q) (k1 u)
  · exact K.lift (fun p e s m args below meth c F T locs X eT t q => XS.icmpNo X.here F.1 rfl (hb F.2.1 hd) rfl (feq u).1 q) (k2 u)
theorem Kx.if_eq (K : Kx E y bytes ml rt l Z R n0 Q) {o : Int} {x : Int32} (hd : Db bytes pc (.ifCond .eq o) o pc1 pc2) (k1 : x = 0 → Wk E h kc kn pc2 ls st) (k2 : ¬ x = 0 → Wk E h kc kn pc1 ls st) : Wk E h kc kn pc ls (.int x :: st) := by
  obtain ⟨hd, rfl, h0, h1⟩ := hd
  by_cases u : x = 0
  · exact K.lift (fun p e s m args below meth c F T locs X eT t q => XS.ifYes X.here F.1 rfl rfl (hb F.2.1 hd) rfl ((if0 _ _).trans (teq u).1) h0 h1 q) (k1 u)
  · exact K.lift (fun p e s m args below meth c F T locs X eT t q => XS.ifNo X.here F.1 rfl (hb F.2.1 hd) rfl ((if0 _ _).trans (feq u).1) q) (k2 u)
theorem Kx.ic_ne (K : Kx E y bytes ml rt l Z R n0 Q) {o : Int} {x y' : Int32} (hd : Db bytes pc (.if_icmp .ne o) o pc1 pc2) (k1 : x = y' → Wk E h kc kn pc1 ls st) (k2 : ¬ x = y' → Wk E h kc kn pc2 ls st) : Wk E h kc kn pc ls (.int y' :: .int x :: st) := by
  obtain ⟨hd, rfl, h0, h1⟩ := hd
  by_cases u : x = y'
  · exact K.lift (fun p e s m args below meth c F T locs X eT t q => XS.icmpNo X.here F.1 rfl (hb F.2.1 hd) rfl (teq u).2 q) (k1 u)
  · exact K.lift (fun p e s m args below meth c F T locs X eT t q => XS.icmpYes X.here F.1 rfl rfl (hb F.2.1 hd) rfl (feq u).2 h0 h1 q) (k2 u)
theorem Kx.if_ne (K : Kx E y bytes ml rt l Z R n0 Q) {o : Int} {x : Int32} (hd : Db bytes pc (.ifCond .ne o) o pc1 pc2) (k1 : x = 0 → Wk E h kc kn pc1 ls st) (k2 : ¬ x = 0 → Wk E h kc kn pc2 ls st) : Wk E h kc kn pc ls (.int x :: st) := by
  obtain ⟨hd, rfl, h0, h1⟩ := hd
  by_cases u : x = 0
  · exact K.lift (fun p e s m args below meth c F T locs X eT t q => XS.ifNo X.here F.1 rfl (hb F.2.1 hd) rfl ((if0 _ _).trans (teq u).2) q) (k1 u)
  · exact K.lift (fun p e s m args below meth c F T locs X eT t q => XS.ifYes X.here F.1 rfl rfl (hb F.2.1 hd) rfl ((if0 _ _).trans (feq u).2) h0 h1 q) (k2 u)
theorem Kx.ic_lt (K : Kx E y bytes ml rt l Z R n0 Q) {o : Int} {x y' : Int32} (hd : Db bytes pc (.if_icmp .lt o) o pc1 pc2) (k1 : x < y' → Wk E h kc kn pc2 ls st) (k2 : ¬ x < y' → Wk E h kc kn pc1 ls st) : Wk E h kc kn pc ls (.int y' :: .int x :: st) := by
  obtain ⟨hd, rfl, h0, h1⟩ := hd
  by_cases u : x < y'
  · exact K.lift (fun p e s m args below meth c F T locs X eT t q => XS.icmpYes X.here F.1 rfl rfl (hb F.2.1 hd) rfl (tlt u).1 h0 h1 q) (k1 u)
  · exact K.lift (fun p e s m args below meth c F T locs X eT t q => XS.icmpNo X.here F.1 rfl (hb F.2.1 hd) rfl (flt u).1 q) (k2 u)
theorem Kx.if_lt (K : Kx E y bytes ml rt l Z R n0 Q) {o : Int} {x : Int32} (hd : Db bytes pc (.ifCond .lt o) o pc1 pc2) (k1 : x < 0 → Wk E h kc kn pc2 ls st) (k2 : ¬ x < 0 → Wk E h kc kn pc1 ls st) : Wk E h kc kn pc ls (.int x :: st) := by
  obtain ⟨hd, rfl, h0, h1⟩ := hd
  by_cases u : x < 0
  · exact K.lift (fun p e s m args below meth c F T locs X eT t q => XS.ifYes X.here F.1 rfl rfl (hb F.2.1 hd) rfl ((if0 _ _).trans (tlt u).1) h0 h1 q) (k1 u)
  · exact K.lift (fun p e s m args below meth c F T locs X eT t q => XS.ifNo X.here F.1 rfl (hb F.2.1 hd) rfl ((if0 _ _).trans (flt u).1) q) (k2 u)
theorem Kx.ic_ge (K : Kx E y bytes ml rt l Z R n0 Q) {o : Int} {x y' : Int32} (hd : Db bytes pc (.if_icmp .ge o) o pc1 pc2) (k1 : x < y' → Wk E h kc kn pc1 ls st) (k2 : ¬ x < y' → Wk E h kc kn pc2 ls st) : Wk E h kc kn pc ls (.int y' :: .int x :: st) := by
  obtain ⟨hd, rfl, h0, h1⟩ := hd
  by_cases u : x < y'
  · exact K.lift (fun p e s m args below meth c F T locs X eT t q => XS.icmpNo X.here F.1 rfl (hb F.2.1 hd) rfl (tlt u).2.1 q) (k1 u)
  · exact K.lift (fun p e s m args below meth c F T locs X eT t q => XS.icmpYes X.here F.1 rfl rfl (hb F.2.1 hd) rfl (flt u).2.1 h0 h1 q) (k2 u)
theorem Kx.if_ge (K : Kx E y bytes ml rt l Z R n0 Q) {o : Int} {x : Int32} (hd : Db bytes pc (.ifCond .ge o) o pc1 pc2) (k1 : x < 0 → Wk E h kc kn pc1 ls st) (k2 : ¬ x < 0 → Wk E h kc kn pc2 ls st) : Wk E h kc kn pc ls (.int x :: st) := by
  obtain ⟨hd, rfl, h0, h1⟩ := hd
  by_cases u : x < 0
  · exact K.lift (fun p e s m args below meth c F T locs X eT t q => XS.ifNo X.here F.1 rfl (hb F.2.1 hd) rfl ((if0 _ _).trans (tlt u).2.1) q) (k1 u)
  · exact K.lift (fun p e s m args below meth c F T locs X eT t q => XS.ifYes X.here F.1 rfl rfl (hb F.2.1 hd) rfl ((if0 _ _).trans (flt u).2.1) h0 h1 q) (k2 u)
theorem Kx.ic_gt (K : Kx E y bytes ml rt l Z R n0 Q) {o : Int} {x y' : Int32} (hd : Db bytes pc (.if_icmp .gt o) o pc1 pc2) (k1 : y' < x → Wk E h kc kn pc2 ls st) (k2 : ¬ y' < x → Wk E h kc kn pc1 ls st) : Wk E h kc kn pc ls (.int y' :: .int x :: st) := by
  obtain ⟨hd, rfl, h0, h1⟩ := hd
  by_cases u : y' < x
  · exact K.lift (fun p e s m args below meth c F T locs X eT t q => XS.icmpYes X.here F.1 rfl rfl (hb F.2.1 hd) rfl (tlt u).2.2.1 h0 h1 q) (k1 u)
  · exact K.lift (fun p e s m args below meth c F T locs X eT t q => XS.icmpNo X.here F.1 rfl (hb F.2.1 hd) rfl (flt u).2.2.1 q) (k2 u)
theorem Kx.if_gt (K : Kx E y bytes ml rt l Z R n0 Q) {o : Int} {x : Int32} (hd : Db bytes pc (.ifCond .gt o) o pc1 pc2) (k1 : 0 < x → Wk E h kc kn pc2 ls st) (k2 : ¬ 0 < x → Wk E h kc kn pc1 ls st) : Wk E h kc kn pc ls (.int x :: st) := by
  obtain ⟨hd, rfl, h0, h1⟩ := hd
  by_cases u : 0 < x
  · exact K.lift (fun p e s m args below meth c F T locs X eT t q => XS.ifYes X.here F.1 rfl rfl (hb F.2.1 hd) rfl ((if0 _ _).trans (tlt u).2.2.1) h0 h1 q) (k1 u)
  · exact K.lift (fun p e s m args below meth c F T locs X eT t q => XS.ifNo X.here F.1 rfl (hb F.2.1 hd) rfl ((if0 _ _).trans (flt u).2.2.1) q) (k2 u)
theorem Kx.ic_le (K : Kx E y bytes ml rt l Z R n0 Q) {o : Int} {x y' : Int32} (hd : Db bytes pc (.if_icmp .le o) o pc1 pc2) (k1 : y' < x → Wk E h kc kn pc1 ls st) (k2 : ¬ y' < x → Wk E h kc kn pc2 ls st) : Wk E h kc kn pc ls (.int y' :: .int x :: st) := by
  obtain ⟨hd, rfl, h0, h1⟩ := hd
  by_cases u : y' < x
  · exact K.lift (fun p e s m args below meth c F T locs X eT t q => XS.icmpNo X.here F.1 rfl (hb F.2.1 hd) rfl (tlt u).2.2.2 q) (k1 u)
  · exact K.lift (fun p e s m args below meth c F T locs X eT t q => XS.icmpYes X.here F.1 rfl rfl (hb F.2.1 hd) rfl (flt u).2.2.2 h0 h1 q) (k2 u)
theorem Kx.if_le (K : Kx E y bytes ml rt l Z R n0 Q) {o : Int} {x : Int32} (hd : Db bytes pc (.ifCond .le o) o pc1 pc2) (k1 : 0 < x → Wk E h kc kn pc1 ls st) (k2 : ¬ 0 < x → Wk E h kc kn pc2 ls st) : Wk E h kc kn pc ls (.int x :: st) := by
  obtain ⟨hd, rfl, h0, h1⟩ := hd
  by_cases u : 0 < x
  · exact K.lift (fun p e s m args below meth c F T locs X eT t q => XS.ifNo X.here F.1 rfl (hb F.2.1 hd) rfl ((if0 _ _).trans (tlt u).2.2.2) q) (k1 u)
  · exact K.lift (fun p e s m args below meth c F T locs X eT t q => XS.ifYes X.here F.1 rfl rfl (hb F.2.1 hd) rfl ((if0 _ _).trans (flt u).2.2.2) h0 h1 q) (k2 u)
theorem Kx.lcmp (K : Kx E y bytes ml rt l Z R n0 Q) {x y' : Int64} (hd : Dc bytes pc .lcmp 1 pc') (k : Wk E h kc kn pc' ls (.int (lcmpW x y') :: st)) : Wk E h kc kn pc ls (.long y' :: .long x :: st) := by
  obtain ⟨hd, rfl⟩ := hd
  exact K.lift (fun p e s m args below meth c F T locs X eT t q => XS.lcmp X.here F.1 rfl (hb F.2.1 hd) rfl q) k
theorem Kx.lc_eq (K : Kx E y bytes ml rt l Z R n0 Q) {o : Int} {x y' : Int64} {pcm : Nat} (hd0 : Dc bytes pc .lcmp 1 pcm) (hd : Db bytes pcm (.ifCond .eq o) o pc1 pc2) (k1 : x = y' → Wk E h kc kn pc2 ls st) (k2 : ¬ x = y' → Wk E h kc kn pc1 ls st) : Wk E h kc kn pc ls (.long y' :: .long x :: st) :=
  K.lcmp hd0 (K.if_eq hd (fun u => k1 ((lw_eq x y').mp u)) (fun u => k2 (fun v => u ((lw_eq x y').mpr v))))
theorem Kx.lc_ne (K : Kx E y bytes ml rt l Z R n0 Q) {o : Int} {x y' : Int64} {pcm : Nat} (hd0 : Dc bytes pc .lcmp 1 pcm) (hd : Db bytes pcm (.ifCond .ne o) o pc1 pc2) (k1 : x = y' → Wk E h kc kn pc1 ls st) (k2 : ¬ x = y' → Wk E h kc kn pc2 ls st) : Wk E h kc kn pc ls (.long y' :: .long x :: st) :=
  K.lcmp hd0 (K.if_ne hd (fun u => k1 ((lw_eq x y').mp u)) (fun u => k2 (fun v => u ((lw_eq x y').mpr v))))
theorem Kx.lc_lt (K : Kx E y bytes ml rt l Z R n0 Q) {o : Int} {x y' : Int64} {pcm : Nat} (hd0 : Dc bytes pc .lcmp 1 pcm) (hd : Db bytes pcm (.ifCond .lt o) o pc1 pc2) (k1 : x < y' → Wk E h kc kn pc2 ls st) (k2 : ¬ x < y' → Wk E h kc kn pc1 ls st) : Wk E h kc kn pc ls (.long y' :: .long x :: st) :=
  K.lcmp hd0 (K.if_lt hd (fun u => k1 ((lw_lt x y').mp u)) (fun u => k2 (fun v => u ((lw_lt x y').mpr v))))
theorem Kx.lc_ge (K : Kx E y bytes ml rt l Z R n0 Q) {o : Int} {x y' : Int64} {pcm : Nat} (hd0 : Dc bytes pc .lcmp 1 pcm) (hd : Db bytes pcm (.ifCond .ge o) o pc1 pc2) (k1 : x < y' → Wk E h kc kn pc1 ls st) (k2 : ¬ x < y' → Wk E h kc kn pc2 ls st) : Wk E h kc kn pc ls (.long y' :: .long x :: st) :=
  K.lcmp hd0 (K.if_ge hd (fun u => k1 ((lw_lt x y').mp u)) (fun u => k2 (fun v => u ((lw_lt x y').mpr v))))
theorem Kx.lc_gt (K : Kx E y bytes ml rt l Z R n0 Q) {o : Int} {x y' : Int64} {pcm : Nat} (hd0 : Dc bytes pc .lcmp 1 pcm) (hd : Db bytes pcm (.ifCond .gt o) o pc1 pc2) (k1 : y' < x → Wk E h kc kn pc2 ls st) (k2 : ¬ y' < x → Wk E h kc kn pc1 ls st) : Wk E h kc kn pc ls (.long y' :: .long x :: st) :=
  K.lcmp hd0 (K.if_gt hd (fun u => k1 ((lw_gt x y').mp u)) (fun u => k2 (fun v => u ((lw_gt x y').mpr v))))
theorem Kx.lc_le (K : Kx E y bytes ml rt l Z R n0 Q) {o : Int} {x y' : Int64} {pcm : Nat} (hd0 : Dc bytes pc .lcmp 1 pcm) (hd : Db bytes pcm (.ifCond .le o) o pc1 pc2) (k1 : y' < x → Wk E h kc kn pc1 ls st) (k2 : ¬ y' < x → Wk E h kc kn pc2 ls st) : Wk E h kc kn pc ls (.long y' :: .long x :: st) :=
  K.lcmp hd0 (K.if_le hd (fun u => k1 ((lw_gt x y').mp u)) (fun u => k2 (fun v => u ((lw_gt x y').mpr v))))
theorem Kx.ifnull_null (K : Kx E y bytes ml rt l Z R n0 Q) {o : Int} (hd : Db bytes pc (.ifnull o) o pc1 pc2) (k : Wk E h kc kn pc2 ls st) : Wk E h kc kn pc ls (.null :: st) := by
  obtain ⟨hd, -, h0, h1⟩ := hd
  exact K.lift (fun p e s m args below meth c F T locs X eT t q => XS.ifnullYes X.here F.1 rfl rfl (hb F.2.1 hd) rfl h0 h1 q) k
theorem Kx.ifnull_ref (K : Kx E y bytes ml rt l Z R n0 Q) {o : Int} (hd : Db bytes pc (.ifnull o) o pc1 pc2) (k : Wk E h kc kn pc1 ls st) : Wk E h kc kn pc ls (.ref a :: st) := by
  obtain ⟨hd, rfl, h0, h1⟩ := hd
  exact K.lift (fun p e s m args below meth c F T locs X eT t q => XS.ifnullNo X.here F.1 rfl (hb F.2.1 hd) rfl q) k
theorem Kx.ifnonnull_ref (K : Kx E y bytes ml rt l Z R n0 Q) {o : Int} (hd : Db bytes pc (.ifnonnull o) o pc1 pc2) (k : Wk E h kc kn pc2 ls st) : Wk E h kc kn pc ls (.ref a :: st) := by
  obtain ⟨hd, -, h0, h1⟩ := hd
  exact K.lift (fun p e s m args below meth c F T locs X eT t q => XS.ifnonnullYes X.here F.1 rfl rfl (hb F.2.1 hd) rfl h0 h1 q) k
theorem Kx.ifnonnull_null (K : Kx E y bytes ml rt l Z R n0 Q) {o : Int} (hd : Db bytes pc (.ifnonnull o) o pc1 pc2) (k : Wk E h kc kn pc1 ls st) : Wk E h kc kn pc ls (.null :: st) := by
  obtain ⟨hd, rfl, h0, h1⟩ := hd
  exact K.lift (fun p e s m args below meth c F T locs X eT t q => XS.ifnonnullNo X.here F.1 rfl (hb F.2.1 hd) rfl q) k
theorem Kx.ldcF (K : Kx E y bytes ml rt l Z R n0 Q) {i : Nat} {v : UInt32} (hd : Dc bytes pc (.ldc i) 2 pc') (w : (Jvm.Cond.constantFloat y.cls i v).before a0 Z = true) (k : Wk E h kc kn pc' ls (.float v :: st)) : Wk E h kc kn pc ls st := by
  obtain ⟨hd, rfl⟩ := hd
  exact K.lift (fun p e s m args below meth c F T locs X eT t q => X.ldcFloatC F.1 F.2.2.2.2.2.2.1 (mvT F.2.2.2.2.2.1 w) (g := mkF m pc ls st) rfl (hb F.2.1 hd) t q) k
/-- an array: its kind, its length, what each place holds -/
def Ia (Z : State) (h : Heap) (a : Addr) (ty : FieldType) (N : Int32) (f : Int32 → Value) : Prop := ∃ c : Cell, Arr Z h a c ty ∧ c.slots.size = N.toNatClampNeg ∧ ¬ N < 0 ∧ ∀ j : Int32, ¬ j < 0 → j < N → c.slots[j.toNatClampNeg]? = some (f j)
theorem Ia.lt {ty : FieldType} {N : Int32} {f : Int32 → Value} (F : Ia Z h a ty N f) : a < h.size := by obtain ⟨c, A, -⟩ := F; exact A.lt
theorem Ia.nn {ty : FieldType} {N : Int32} {f : Int32 → Value} (F : Ia Z h a ty N f) : ¬ N < 0 := by obtain ⟨c, -, -, q, -⟩ := F; exact q
theorem Ia.ext {ty : FieldType} {N : Int32} {f : Int32 → Value} (F : Ia Z h a ty N f) (X : Ext h h') : Ia Z h' a ty N f := by obtain ⟨c, A, r⟩ := F; exact ⟨c, A.ext X, r⟩
theorem Ia.other {ty : FieldType} {N : Int32} {f : Int32 → Value} {sl : Nat} {v : Value} (F : Ia Z h b ty N f) (W : Wr h h' a sl v) (q : b ≠ a) : Ia Z h' b ty N f := by obtain ⟨c, A, r⟩ := F; exact ⟨c, A.other W q, r⟩
theorem Ia.keep {ty : FieldType} {N : Int32} {f : Int32 → Value} {ws : List Addr} (F : Ia Z h a ty N f) (K : Keep h h' ws) (q : a ∉ ws) : Ia Z h' a ty N f := by obtain ⟨c, A, r⟩ := F; exact ⟨c, ⟨K.2.1 a c A.1 q, A.2⟩, r⟩
theorem Ia.congr {ty : FieldType} {N : Int32} {f g : Int32 → Value} (F : Ia Z h a ty N f) (q : ∀ j : Int32, ¬ j < 0 → j < N → f j = g j) : Ia Z h a ty N g := by
  obtain ⟨c, A, r1, r2, r3⟩ := F
  exact ⟨c, A, r1, r2, fun j h1 h2 => by rw [r3 j h1 h2, q j h1 h2]⟩
theorem Ia.set {ty : FieldType} {N j : Int32} {f : Int32 → Value} {v : Value} (F : Ia Z h a ty N f) (W : Wr h h' a j.toNatClampNeg v) (hj : ¬ j < 0) : Ia Z h' a ty N (fun k => if k = j then v else f k) := by
  obtain ⟨c, A, S, M, G⟩ := F
  refine ⟨_, A.same W, by rw [sz_set]; exact S, M, fun k h1 h2 => ?_⟩
  show _ = some (if k = j then v else f k)
  by_cases u : k = j
  · rw [if_pos u]; exact get_hit (inb_of S (u ▸ ⟨h1, h2⟩)) u
  · rw [if_neg u, get_miss hj h1 u]; exact G k h1 h2
theorem Ia.new {ty : FieldType} {N : Int32} {k : ClassId} (A : Arr Z h a (newA k ty N) ty) (q : ¬ N < 0) : Ia Z h a ty N (fun _ => defaultValue ty) :=
  ⟨_, A, sz_new _ _ _, q, fun j h1 h2 => get_new (by have := inb_of (sz_new k ty N) ⟨h1, h2⟩; rw [sz_new] at this; exact this)⟩
theorem Kx.getF (K : Kx E y bytes ml rt l Z R n0 Q) {i : Nat} {O n d : String} {v : Value} (hd : Dc bytes pc (.getfield i) 3 pc') (w : (Jvm.Cond.fieldLink y.cls i O n d).before a0 Z = true) (F : Fld Z h a O n d v) (k : Wk E h kc kn pc' ls (v :: st)) : Wk E h kc kn pc ls (.ref a :: st) := by
  obtain ⟨hd, rfl⟩ := hd
  refine K.move (fun p e s m args below meth c G T locs X eT N => ?_)
  obtain ⟨g1, g2, g3, g4, g5, hZ, hown, g8, g9⟩ := G
  have hn : n0 ≤ h.size := by rw [← eT]; exact Nat.le_trans g9 X.same.2.1
  obtain ⟨T', X', e', q'⟩ := RoadKit.getF X g1 hZ hown (host := "") (Or.inl w) Via.refl eT F (g := mkF m pc ls (.ref a :: st)) rfl rfl (hb g2 hd)
  exact ⟨T', _, _, _, _, _, _, _, X', e', N, (Nat.le_refl _), k, fun t q => q' t q⟩
theorem Kx.putF (K : Kx E y bytes ml rt l Z R n0 Q) {i kk : Nat} {O n d C : String} {ty : FieldType} {v old : Value} (hd : Dc bytes pc (.putfield i) 3 pc') (w : (Jvm.Cond.fieldLink y.cls i O n d).before a0 Z = true) (F : Fld Z h a O n d old) (X0 : Exa Z h a C)
    (L : (Jvm.Cond.lays C O n d).before a0 Z = true ∨ ((Jvm.Cond.laysFinal C O n d).before a0 Z = true ∧ y.cls = O ∧ y.name = "<init>")) (wi : (Jvm.Cond.instantiable C kk).before a0 Z = true) (ht : parseFieldDescriptor d = some ty) (hna : narrow ty v = v) (hf : fits ty v = true) (ge : n0 ≤ a)
    (k : ∀ h', Wr h h' a (RoadKit.slotOf Z O n d) v → Wk E h' kc kn pc' ls st) : Wk E h kc kn pc ls (v :: .ref a :: st) := by
  obtain ⟨hd, rfl⟩ := hd
  refine K.move (fun p e s m args below meth c G T locs X eT N => ?_)
  obtain ⟨g1, g2, g3, g4, g5, hZ, hown, g8, g9⟩ := G
  have hn : n0 ≤ h.size := by rw [← eT]; exact Nat.le_trans g9 X.same.2.1
  obtain ⟨T', h', X', e', W, q'⟩ := RoadKit.putF X g1 hZ hown (host := "") (Or.inl w) Via.refl eT F X0 (L.imp id fun u => ⟨u.1, u.2.1, g8.trans u.2.2⟩) wi ht hna hf (g := mkF m pc ls (v :: .ref a :: st)) rfl rfl (hb g2 hd)
  exact ⟨T', _, _, _, _, _, _, _, X', e', (Fr.snoc X' N ge), (Nat.le_of_eq W.size.symm), k h' W, fun t q => q' t q⟩
theorem Kx.newO (K : Kx E y bytes ml rt l Z R n0 Q) {i sz : Nat} {C : String} (kc' kn' : Nat) (hd : Dc bytes pc (.new i) 3 pc') (w : (Jvm.Cond.classLink y.cls i C).before a0 Z = true) (wi : (Jvm.Cond.instantiable C sz).before a0 Z = true) (wz : (Jvm.Cond.initialized C).before a0 Z = true)
    (hk : kc + 1 = kc') (hk2 : kn + sz = kn') (hc : kc' ≤ R.cells) (hl : kn' ≤ R.slots)
    (k : ∀ h' a, a = h.size → n0 ≤ a → Ext h h' → Exa Z h' a C → (∀ {O nm d : String} {ty : FieldType}, Laid Z a0 C O nm d → parseFieldDescriptor d = some ty → Fld Z h' a O nm d (defaultValue ty)) → Wk E h' kc' kn' pc' ls (.ref a :: st)) : Wk E h kc kn pc ls st := by
  obtain ⟨hd, rfl⟩ := hd
  refine K.move (fun p e s m args below meth c G T locs X eT N => ?_)
  obtain ⟨g1, g2, g3, g4, g5, hZ, hown, g8, g9⟩ := G
  have hn : n0 ≤ h.size := by rw [← eT]; exact Nat.le_trans g9 X.same.2.1
  subst hk hk2
  obtain ⟨T', h', X', e', E', A', D', -, q'⟩ := RoadKit.newO X g1 hZ hown w wi wz eT (g := mkF m pc ls st) rfl (hb g2 hd) hc hl
  exact ⟨T', _, _, _, _, _, _, _, X', e', N, E'.1, k h' h.size rfl hn E' A' D', fun t q => q' t q⟩
theorem Kx.newP (K : Kx E y bytes ml rt l Z R n0 Q) {aty : ArrayType} {N : Int32} {ty : FieldType} {dv : Value} (cap kc' kn' : Nat) (hd : Dc bytes pc (.newarray aty) 2 pc') (w : (Jvm.Cond.arrayClass ty).before a0 Z = true) (hty : newarray.typeOf aty = ty) (hdv : defaultValue ty = dv) (hN : ¬ N < 0) (hcap : N.toNatClampNeg ≤ cap) (h8 : cap * 8 ≤ 536870912)
    (hk : kc + 1 = kc') (hk2 : kn + cap = kn') (hc : kc' ≤ R.cells) (hl : kn' ≤ R.slots)
    (k : ∀ h' a, a = h.size → n0 ≤ a → Ext h h' → Ia Z h' a ty N (fun _ => dv) → Wk E h' kc' kn' pc' ls (.ref a :: st)) : Wk E h kc kn pc ls (.int N :: st) := by
  obtain ⟨hd, rfl⟩ := hd
  refine K.move (fun p e s m args below meth c G T locs X eT N' => ?_)
  obtain ⟨g1, g2, g3, g4, g5, hZ, hown, g8, g9⟩ := G
  have hn : n0 ≤ h.size := by rw [← eT]; exact Nat.le_trans g9 X.same.2.1
  subst hk hk2 hty hdv
  obtain ⟨T', h', cA, X', e', E', A', q'⟩ := RoadKit.newP X g1 hZ w eT (g := mkF m pc ls (.int N :: st)) rfl (hb g2 hd) rfl hN hcap h8 hc hl
  exact ⟨T', _, _, _, _, _, _, _, X', e', N', E'.1, k h' h.size rfl hn E' (Ia.new A' hN), fun t q => q' t q⟩
theorem Kx.newR (K : Kx E y bytes ml rt l Z R n0 Q) {i : Nat} {N : Int32} {C : String} (cap kc' kn' : Nat) (hd : Dc bytes pc (.anewarray i) 3 pc') (w1 : (Jvm.Cond.classLink y.cls i C).before a0 Z = true) (w2 : (Jvm.Cond.arrayOver (.object C)).before a0 Z = true) (hN : ¬ N < 0) (hcap : N.toNatClampNeg ≤ cap) (h8 : cap * 8 ≤ 536870912)
    (hk : kc + 1 = kc') (hk2 : kn + cap = kn') (hc : kc' ≤ R.cells) (hl : kn' ≤ R.slots)
    (k : ∀ h' a, a = h.size → n0 ≤ a → Ext h h' → Ia Z h' a (.object C) N (fun _ => .null) → Wk E h' kc' kn' pc' ls (.ref a :: st)) : Wk E h kc kn pc ls (.int N :: st) := by
  obtain ⟨hd, rfl⟩ := hd
  refine K.move (fun p e s m args below meth c G T locs X eT N' => ?_)
  obtain ⟨g1, g2, g3, g4, g5, hZ, hown, g8, g9⟩ := G
  have hn : n0 ≤ h.size := by rw [← eT]; exact Nat.le_trans g9 X.same.2.1
  subst hk hk2
  obtain ⟨T', h', cA, X', e', E', A', O', q'⟩ := RoadKit.newR X g1 hZ hown w1 w2 eT (g := mkF m pc ls (.int N :: st)) rfl (hb g2 hd) rfl hN hcap h8 hc hl
  exact ⟨T', _, _, _, _, _, _, _, X', e', N', E'.1, k h' h.size rfl hn E' (Ia.new A' hN), fun t q => q' t q⟩
theorem Kx.newRA (K : Kx E y bytes ml rt l Z R n0 Q) {i : Nat} {N : Int32} {C : String} {ty : FieldType} (cap kc' kn' : Nat) (hd : Dc bytes pc (.anewarray i) 3 pc') (hC : (FieldType.array ty).toString = C) (w1 : (Jvm.Cond.classLink y.cls i C).before a0 Z = true) (w2 : (Jvm.Cond.arrayOver (.array ty)).before a0 Z = true) (hN : ¬ N < 0) (hcap : N.toNatClampNeg ≤ cap) (h8 : cap * 8 ≤ 536870912)
    (hk : kc + 1 = kc') (hk2 : kn + cap = kn') (hc : kc' ≤ R.cells) (hl : kn' ≤ R.slots)
    (k : ∀ h' a, a = h.size → n0 ≤ a → Ext h h' → Ia Z h' a (.array ty) N (fun _ => .null) → Wk E h' kc' kn' pc' ls (.ref a :: st)) : Wk E h kc kn pc ls (.int N :: st) := by
  obtain ⟨hd, rfl⟩ := hd
  refine K.move (fun p e s m args below meth c G T locs X eT N' => ?_)
  obtain ⟨g1, g2, g3, g4, g5, hZ, hown, g8, g9⟩ := G
  have hn : n0 ≤ h.size := by rw [← eT]; exact Nat.le_trans g9 X.same.2.1
  subst hk hk2
  obtain ⟨T', h', cA, X', e', E', A', -, O', q'⟩ := RoadKit.newRA X g1 hZ hown hC w1 w2 eT (g := mkF m pc ls (.int N :: st)) rfl (hb g2 hd) rfl hN hcap h8 hc hl rfl
  exact ⟨T', _, _, _, _, _, _, _, X', e', N', E'.1, k h' h.size rfl hn E' (Ia.new A' hN), fun t q => q' t q⟩
theorem Kx.arraylength (K : Kx E y bytes ml rt l Z R n0 Q) {ty : FieldType} {N : Int32} {f : Int32 → Value} (hd : Dc bytes pc .arraylength 1 pc') (A : Ia Z h a ty N f) (k : Wk E h kc kn pc' ls (.int N :: st)) : Wk E h kc kn pc ls (.ref a :: st) := by
  obtain ⟨hd, rfl⟩ := hd
  obtain ⟨cl, A, S, M, G⟩ := A
  refine K.lift (fun p e s m args below meth c F T locs X eT t q => ?_) k
  exact X.arraylength F.1 (by rw [eT]; exact A.1) (State.isArrayOf_alike F.2.2.2.2.2.1.alike A.2.1) (g := mkF m pc ls (.ref a :: st)) rfl rfl (hb F.2.1 hd) t (by rw [len_of S M]; exact q)
theorem Kx.iaload (K : Kx E y bytes ml rt l Z R n0 Q) {N j : Int32} {f : Int32 → Value} {v : Value} (hd : Dc bytes pc .iaload 1 pc') (A : Ia Z h a .int N f) (h1 : ¬ j < 0) (h2 : j < N) (hv : f j = v) (k : Wk E h kc kn pc' ls (v :: st)) : Wk E h kc kn pc ls (.int j :: .ref a :: st) := by
  obtain ⟨hd, rfl⟩ := hd
  obtain ⟨cl, A, S, M, G⟩ := A
  refine K.lift (fun p e s m args below meth c F T locs X eT t q => ?_) k
  exact X.iaload F.1 (by rw [eT]; exact A.1) (State.isArrayOf_alike F.2.2.2.2.2.1.alike A.2.1) A.2.2 (inb_of S ⟨h1, h2⟩) (hv ▸ G j h1 h2) (g := mkF m pc ls (.int j :: .ref a :: st)) rfl rfl (hb F.2.1 hd) t q
theorem Kx.baload (K : Kx E y bytes ml rt l Z R n0 Q) {N j : Int32} {f : Int32 → Value} {v : Value} (hd : Dc bytes pc .baload 1 pc') (A : Ia Z h a .byte N f) (h1 : ¬ j < 0) (h2 : j < N) (hv : f j = v) (k : Wk E h kc kn pc' ls (v :: st)) : Wk E h kc kn pc ls (.int j :: .ref a :: st) := by
  obtain ⟨hd, rfl⟩ := hd
  obtain ⟨cl, A, S, M, G⟩ := A
  refine K.lift (fun p e s m args below meth c F T locs X eT t q => ?_) k
  exact X.baloadBytes F.1 (by rw [eT]; exact A.1) (State.isArrayOf_alike F.2.2.2.2.2.1.alike A.2.1) A.2.2 (inb_of S ⟨h1, h2⟩) (hv ▸ G j h1 h2) (g := mkF m pc ls (.int j :: .ref a :: st)) rfl rfl (hb F.2.1 hd) t q
theorem Kx.caload (K : Kx E y bytes ml rt l Z R n0 Q) {N j : Int32} {f : Int32 → Value} {v : Value} (hd : Dc bytes pc .caload 1 pc') (A : Ia Z h a .char N f) (h1 : ¬ j < 0) (h2 : j < N) (hv : f j = v) (k : Wk E h kc kn pc' ls (v :: st)) : Wk E h kc kn pc ls (.int j :: .ref a :: st) := by
  obtain ⟨hd, rfl⟩ := hd
  obtain ⟨cl, A, S, M, G⟩ := A
  refine K.lift (fun p e s m args below meth c F T locs X eT t q => ?_) k
  exact X.caload F.1 (by rw [eT]; exact A.1) (State.isArrayOf_alike F.2.2.2.2.2.1.alike A.2.1) A.2.2 (inb_of S ⟨h1, h2⟩) (hv ▸ G j h1 h2) (g := mkF m pc ls (.int j :: .ref a :: st)) rfl rfl (hb F.2.1 hd) t q
theorem Kx.aaload (K : Kx E y bytes ml rt l Z R n0 Q) {N j : Int32} {f : Int32 → Value} {ty : FieldType} {v : Value} (hd : Dc bytes pc .aaload 1 pc') (A : Ia Z h a ty N f) (hty : ty.isReference = true) (h1 : ¬ j < 0) (h2 : j < N) (hv : f j = v) (k : Wk E h kc kn pc' ls (v :: st)) : Wk E h kc kn pc ls (.int j :: .ref a :: st) := by
  obtain ⟨hd, rfl⟩ := hd
  obtain ⟨cl, A, S, M, G⟩ := A
  refine K.lift (fun p e s m args below meth c F T locs X eT t q => ?_) k
  exact X.aaload F.1 (by rw [eT]; exact A.1) (State.isArrayOf_alike F.2.2.2.2.2.1.alike A.2.1) hty A.2.2 (inb_of S ⟨h1, h2⟩) (hv ▸ G j h1 h2) (g := mkF m pc ls (.int j :: .ref a :: st)) rfl rfl (hb F.2.1 hd) t q
theorem Kx.iastore (K : Kx E y bytes ml rt l Z R n0 Q) {N j x : Int32} {f : Int32 → Value} (hd : Dc bytes pc .iastore 1 pc') (A : Ia Z h a .int N f) (h1 : ¬ j < 0) (h2 : j < N) (ge : n0 ≤ a)
    (k : ∀ h', Wr h h' a j.toNatClampNeg (.int x) → Ia Z h' a .int N (fun k => if k = j then .int x else f k) → Wk E h' kc kn pc' ls st) : Wk E h kc kn pc ls (.int x :: .int j :: .ref a :: st) := by
  obtain ⟨hd, rfl⟩ := hd
  refine K.move (fun p e s m args below meth c G T locs X eT N' => ?_)
  obtain ⟨g1, g2, g3, g4, g5, hZ, hown, g8, g9⟩ := G
  have hn : n0 ≤ h.size := by rw [← eT]; exact Nat.le_trans g9 X.same.2.1
  obtain ⟨cl, Ar, S, M, G⟩ := id A
  obtain ⟨T', h', X', e', W, q'⟩ := RoadKit.stI X g1 hZ eT Ar (inb_of S ⟨h1, h2⟩) (g := mkF m pc ls (.int x :: .int j :: .ref a :: st)) rfl rfl (hb g2 hd)
  exact ⟨T', _, _, _, _, _, _, _, X', e', (Fr.snoc X' N' ge), (Nat.le_of_eq W.size.symm), k h' W (A.set W h1), fun t q => q' t q⟩
theorem Kx.bastore (K : Kx E y bytes ml rt l Z R n0 Q) {N j x : Int32} {f : Int32 → Value} (hd : Dc bytes pc .bastore 1 pc') (A : Ia Z h a .byte N f) (h1 : ¬ j < 0) (h2 : j < N) (ge : n0 ≤ a)
    (k : ∀ h', Wr h h' a j.toNatClampNeg (.int x.toInt8.toInt32) → Ia Z h' a .byte N (fun k => if k = j then .int x.toInt8.toInt32 else f k) → Wk E h' kc kn pc' ls st) : Wk E h kc kn pc ls (.int x :: .int j :: .ref a :: st) := by
  obtain ⟨hd, rfl⟩ := hd
  refine K.move (fun p e s m args below meth c G T locs X eT N' => ?_)
  obtain ⟨g1, g2, g3, g4, g5, hZ, hown, g8, g9⟩ := G
  have hn : n0 ≤ h.size := by rw [← eT]; exact Nat.le_trans g9 X.same.2.1
  obtain ⟨cl, Ar, S, M, G⟩ := id A
  obtain ⟨T', h', X', e', W, q'⟩ := RoadKit.stB X g1 hZ eT Ar (inb_of S ⟨h1, h2⟩) (g := mkF m pc ls (.int x :: .int j :: .ref a :: st)) rfl rfl (hb g2 hd)
  exact ⟨T', _, _, _, _, _, _, _, X', e', (Fr.snoc X' N' ge), (Nat.le_of_eq W.size.symm), k h' W (A.set W h1), fun t q => q' t q⟩
theorem Kx.castore (K : Kx E y bytes ml rt l Z R n0 Q) {N j x : Int32} {f : Int32 → Value} (hd : Dc bytes pc .castore 1 pc') (A : Ia Z h a .char N f) (h1 : ¬ j < 0) (h2 : j < N) (ge : n0 ≤ a)
    (k : ∀ h', Wr h h' a j.toNatClampNeg (.int x.toUInt32.toUInt16.toUInt32.toInt32) → Ia Z h' a .char N (fun k => if k = j then .int x.toUInt32.toUInt16.toUInt32.toInt32 else f k) → Wk E h' kc kn pc' ls st) : Wk E h kc kn pc ls (.int x :: .int j :: .ref a :: st) := by
  obtain ⟨hd, rfl⟩ := hd
  refine K.move (fun p e s m args below meth c G T locs X eT N' => ?_)
  obtain ⟨g1, g2, g3, g4, g5, hZ, hown, g8, g9⟩ := G
  have hn : n0 ≤ h.size := by rw [← eT]; exact Nat.le_trans g9 X.same.2.1
  obtain ⟨cl, Ar, S, M, G⟩ := id A
  obtain ⟨T', h', X', e', W, q'⟩ := RoadKit.stC X g1 hZ eT Ar (inb_of S ⟨h1, h2⟩) (g := mkF m pc ls (.int x :: .int j :: .ref a :: st)) rfl rfl (hb g2 hd)
  exact ⟨T', _, _, _, _, _, _, _, X', e', (Fr.snoc X' N' ge), (Nat.le_of_eq W.size.symm), k h' W (A.set W h1), fun t q => q' t q⟩
theorem Kx.getS (K : Kx E y bytes ml rt l Z R n0 Q) {i : Nat} {O n d : String} {v : Value} (hd : Dc bytes pc (.getstatic i) 3 pc') (w : (Jvm.Cond.fieldLink y.cls i O n d).before a0 Z = true) (F : Sta Z h O n d v) (k : Wk E h kc kn pc' ls (v :: st)) : Wk E h kc kn pc ls st := by
  obtain ⟨hd, rfl⟩ := hd
  refine K.move (fun p e s m args below meth c G T locs X eT N => ?_)
  obtain ⟨g1, g2, g3, g4, g5, hZ, hown, g8, g9⟩ := G
  have hn : n0 ≤ h.size := by rw [← eT]; exact Nat.le_trans g9 X.same.2.1
  obtain ⟨T', X', e', q'⟩ := RoadKit.getS (host := "") X g1 hZ hown w Via.refl eT F (g := mkF m pc ls st) rfl (hb g2 hd)
  exact ⟨T', _, _, _, _, _, _, _, X', e', N, (Nat.le_refl _), k, fun t q => q' t q⟩
theorem Kx.castY (K : Kx E y bytes ml rt l Z R n0 Q) {i : Nat} {C : String} (hd : Dc bytes pc (.checkcast i) 3 pc') (w : (Jvm.Cond.classLink y.cls i C).before a0 Z = true) (F : Ins Z h a C true) (k : Wk E h kc kn pc' ls (.ref a :: st)) : Wk E h kc kn pc ls (.ref a :: st) := by
  obtain ⟨hd, rfl⟩ := hd
  refine K.move (fun p e s m args below meth c G T locs X eT N => ?_)
  obtain ⟨g1, g2, g3, g4, g5, hZ, hown, g8, g9⟩ := G
  obtain ⟨T', X', e', q'⟩ := RoadKit.castY X g1 hZ hown w eT F (g := mkF m pc ls (.ref a :: st)) rfl rfl (hb g2 hd)
  exact ⟨T', _, _, _, _, _, _, _, X', e', N, (Nat.le_refl _), k, fun t q => q' t q⟩
theorem Kx.instY (K : Kx E y bytes ml rt l Z R n0 Q) {i : Nat} {C : String} (hd : Dc bytes pc (.instanceof i) 3 pc') (w : (Jvm.Cond.classLink y.cls i C).before a0 Z = true) (F : Ins Z h a C true) (k : Wk E h kc kn pc' ls (.int 1 :: st)) : Wk E h kc kn pc ls (.ref a :: st) := by
  obtain ⟨hd, rfl⟩ := hd
  refine K.move (fun p e s m args below meth c G T locs X eT N => ?_)
  obtain ⟨g1, g2, g3, g4, g5, hZ, hown, g8, g9⟩ := G
  obtain ⟨T', X', e', q'⟩ := RoadKit.instY X g1 hZ hown w eT F (g := mkF m pc ls (.ref a :: st)) rfl rfl (hb g2 hd)
  exact ⟨T', _, _, _, _, _, _, _, X', e', N, (Nat.le_refl _), k, fun t q => q' t q⟩
theorem Kx.instNo (K : Kx E y bytes ml rt l Z R n0 Q) {i : Nat} {C D : String} (hd : Dc bytes pc (.instanceof i) 3 pc') (w : (Jvm.Cond.classLink y.cls i C).before a0 Z = true) (X0 : Exa Z h a D) (F : ∃ c t, Z.vm.findClass D = some c ∧ Z.vm.findClass C = some t ∧ Z.vm.assignable c t = false) (k : Wk E h kc kn pc' ls (.int 0 :: st)) : Wk E h kc kn pc ls (.ref a :: st) := by
  obtain ⟨hd, rfl⟩ := hd
  refine K.move (fun p e s m args below meth c G T locs X eT N => ?_)
  obtain ⟨g1, g2, g3, g4, g5, hZ, hown, g8, g9⟩ := G
  obtain ⟨T', X', e', q'⟩ := RoadKit.instNo X g1 hZ hown w eT X0 F (g := mkF m pc ls (.ref a :: st)) rfl rfl (hb g2 hd)
  exact ⟨T', _, _, _, _, _, _, _, X', e', N, (Nat.le_refl _), k, fun t q => q' t q⟩
theorem Kx.instNull (K : Kx E y bytes ml rt l Z R n0 Q) {i : Nat} (hd : Dc bytes pc (.instanceof i) 3 pc') (k : Wk E h kc kn pc' ls (.int 0 :: st)) : Wk E h kc kn pc ls (.null :: st) := by
  obtain ⟨hd, rfl⟩ := hd
  exact K.lift (fun p e s m args below meth c F T locs X eT t q => X.instanceofNull F.1 (g := mkF m pc ls (.null :: st)) rfl rfl (hb F.2.1 hd) t q) k
def Pl (h : Heap) (x : Addr) : Prop := ∃ c : Cell, h[x]? = some c ∧ c.vm.isStatics = false
theorem plE {C : String} (F : Exa Z h a C) : Pl h a := by obtain ⟨c, _, h1, -, -, h4, -⟩ := F; exact ⟨c, h1, h4⟩
theorem plA {ty : FieldType} {N : Int32} {f : Int32 → Value} (F : Ia Z h a ty N f) : Pl h a := by obtain ⟨c, A, -⟩ := F; exact ⟨c, A.1, A.plain⟩
theorem staK {C n d : String} {v : Value} {ws : List Addr} (F : Sta Z h C n d v) (K : Keep h h' ws) (q : ∀ x ∈ ws, Pl h x) : Sta Z h' C n d v := by
  obtain ⟨cf, i, k, f, sa, cell, h1, h2, h3, h4, h5, h6, h7⟩ := F
  refine ⟨cf, i, k, f, sa, cell, h1, h2, h3, h4, K.2.1 sa cell h5 (fun u => ?_), h6, h7⟩
  obtain ⟨c, e1, e2⟩ := q sa u
  cases h5.symm.trans e1
  rw [e2] at h6; cases h6
theorem Kx.ac_eq (K : Kx E y bytes ml rt l Z R n0 Q) {o : Int} (hd : Db bytes pc (.if_acmp .eq o) o pc1 pc2) (k1 : a = b → Wk E h kc kn pc2 ls st) (k2 : ¬ a = b → Wk E h kc kn pc1 ls st) : Wk E h kc kn pc ls (.ref b :: .ref a :: st) := by
  obtain ⟨hd, rfl, h0, h1⟩ := hd
  by_cases u : a = b
  · exact K.lift (fun p e s m args below meth c F T locs X eT t q => RoadKit.acmp (g := mkF m pc ls (.ref b :: .ref a :: st)) X F.1 rfl (x := .ref a) (y := .ref b) rfl rfl (same := true) rfl (hb F.2.1 hd) rfl (by simp [u]) h0 (by simp [acV, h1]) q) (k1 u)
  · exact K.lift (fun p e s m args below meth c F T locs X eT t q => RoadKit.acmp (g := mkF m pc ls (.ref b :: .ref a :: st)) X F.1 rfl (x := .ref a) (y := .ref b) rfl rfl (same := false) rfl (hb F.2.1 hd) rfl (by simp [u]) h0 (by simp [acV]) q) (k2 u)
theorem Kx.ac_ne (K : Kx E y bytes ml rt l Z R n0 Q) {o : Int} (hd : Db bytes pc (.if_acmp .ne o) o pc1 pc2) (k1 : a = b → Wk E h kc kn pc1 ls st) (k2 : ¬ a = b → Wk E h kc kn pc2 ls st) : Wk E h kc kn pc ls (.ref b :: .ref a :: st) := by
  obtain ⟨hd, rfl, h0, h1⟩ := hd
  by_cases u : a = b
  · exact K.lift (fun p e s m args below meth c F T locs X eT t q => RoadKit.acmp (g := mkF m pc ls (.ref b :: .ref a :: st)) X F.1 rfl (x := .ref a) (y := .ref b) rfl rfl (same := true) rfl (hb F.2.1 hd) rfl (by simp [u]) h0 (by simp [acV]) q) (k1 u)
  · exact K.lift (fun p e s m args below meth c F T locs X eT t q => RoadKit.acmp (g := mkF m pc ls (.ref b :: .ref a :: st)) X F.1 rfl (x := .ref a) (y := .ref b) rfl rfl (same := false) rfl (hb F.2.1 hd) rfl (by simp [u]) h0 (by simp [acV, h1]) q) (k2 u)
theorem Kx.initO (K : Kx E y bytes ml rt l Z R n0 Q) {i : Nat} (W : Nat) (hd : Dc bytes pc (.invokespecial i) 3 pc') (w1 : (Jvm.Cond.methodLink y.cls i Lib.objectInit).before a0 Z = true) (w2 : (Jvm.Cond.instanceMethod Lib.objectInit).before a0 Z = true) (w3 : (Jvm.Cond.code Lib.objectInit ⟨#[0xb1]⟩ 1 none).before a0 Z = true)
    (hsz : ls.size = ml) (hf : 1 ≤ R.frames) (hW : (st.map fun v => v.category).sum ≤ W) (hlo : W + 12 ≤ R.locals) (k : Wk E h kc kn pc' ls st) : Wk E h kc kn pc ls (.ref a :: st) := by
  obtain ⟨hd, rfl⟩ := hd
  refine K.move (fun p e s m args below meth c G T locs X eT N => ?_)
  obtain ⟨g1, g2, g3, g4, g5, hZ, hown, g8, g9⟩ := G
  have hn : n0 ≤ h.size := by rw [← eT]; exact Nat.le_trans g9 X.same.2.1
  obtain ⟨T', X', e', q'⟩ := RoadKit.initO X g1 hZ hown w1 w2 w3 eT (g := mkF m pc ls (.ref a :: st)) rfl (by rw [g3]; exact hsz) rfl (hb g2 hd) hf (W := W) (by show 2 * 0 + _ ≤ _; omega) hlo
  exact ⟨T', _, _, _, _, _, _, _, X', e', N, (Nat.le_refl _), k, fun t q => q' t q⟩
theorem Kx.callS (K : Kx E y bytes ml rt l Z R n0 Q) {i : Nat} {y' : MethodName} {bytes' : ByteArray} {ml' : Nat} {rt' : Option FieldType} {rm : Room} {Q' : Option Value → Heap → Prop} (as rest : List Value) (W kc' kn' : Nat) (hd : Dc bytes pc (.invokestatic i) 3 pc')
    (wl : (Jvm.Cond.methodLink y.cls i y').before a0 Z = true) (ws : (Jvm.Cond.static y').before a0 Z = true) (wz : (Jvm.Cond.initialized y'.cls).before a0 Z = true) (wc : (Jvm.Cond.code y' bytes' ml' rt').before a0 Z = true) (hy : y'.cls ≠ "java/lang/invoke/MethodHandle" ∧ y'.cls ≠ "java/lang/invoke/VarHandle")
    (con : Con l Z y' bytes' ml' rt' rm as.toArray h n0 Q') (hst : st = as.reverse ++ rest) (hlen : ∀ sig, parseMethodDescriptor y'.desc = some sig → as.length = sig.parameters.length) (hsz : ls.size = ml) (hW : (rest.map fun v => v.category).sum ≤ W)
    (hf : rm.frames + 1 ≤ R.frames) (hlo : W + (ml' + 11) + rm.locals ≤ R.locals) (hk : kc + rm.cells = kc') (hk2 : kn + rm.slots = kn') (hc : kc' ≤ R.cells) (hl : kn' ≤ R.slots)
    (k : ∀ v h', Q' v h' → Wk E h' kc' kn' pc' ls (v.toList ++ rest)) : Wk E h kc kn pc ls st := by
  obtain ⟨hd, rfl⟩ := hd
  obtain ⟨p, e, s, m, args, below, meth, c, rfl, g1, g2, g3, g4, g5, hZ, hown, g8, g9⟩ := K
  intro T locs X eT N
  have hn : n0 ≤ h.size := by rw [← eT]; exact Nat.le_trans g9 X.same.2.1
  subst hst hk hk2
  obtain ⟨v, vm₁, ⟨T', L', k', n'⟩, -, X', ⟨L, ⟨hQ, hFr⟩, e1, e2, e3⟩, q'⟩ := Jvm.LawKit.callS X g1 (y := y') hown (mvT hZ wl) (mvT hZ ws) (mvT hZ wz) (mvT hZ wc) hy (backOf (W := W) (Q := fun v h L => Q' v h ∧ Fr n0 L) (con hn []) hZ wc wz hf hlo) (g := mkF m pc ls (as.reverse ++ rest)) rfl (by rw [g3]; exact hsz) (argsL := as) (rest := rest) hlen rfl (by show 2 * 0 + _ ≤ _; omega) (hb g2 hd) (fun _ _ => ⟨rfl, eT, hc, hl⟩)
  dsimp only [Pt.U, Pt.locs, Pt.cells, Pt.slots] at X' e1 e2 e3 q' hQ
  subst e1 e2 e3
  obtain ⟨s₂, o, q, r⟩ := k v T'.heap hQ T' _ X' rfl (Fr.app N hFr)
  exact ⟨s₂, o, q' _ q, r⟩
theorem Kx.callI (K : Kx E y bytes ml rt l Z R n0 Q) {i : Nat} {y' : MethodName} {bytes' : ByteArray} {ml' : Nat} {rt' : Option FieldType} {rm : Room} {Q' : Option Value → Heap → Prop} (as rest : List Value) (W kc' kn' : Nat) (hd : Dc bytes pc (.invokespecial i) 3 pc') (hy1 : y'.name = "<init>") (hrt : rt' = none)
    (wl : (Jvm.Cond.methodLink y.cls i y').before a0 Z = true) (wn : (Jvm.Cond.instanceMethod y').before a0 Z = true) (wz : (Jvm.Cond.initialized y'.cls).before a0 Z = true) (wc : (Jvm.Cond.code y' bytes' ml' rt').before a0 Z = true) (hy : y'.cls ≠ "java/lang/invoke/MethodHandle" ∧ y'.cls ≠ "java/lang/invoke/VarHandle")
    (con : Con l Z y' bytes' ml' rt' rm (.ref a :: as).toArray h n0 Q') (hst : st = as.reverse ++ .ref a :: rest) (hlen : ∀ sig, parseMethodDescriptor y'.desc = some sig → as.length = sig.parameters.length) (hsz : ls.size = ml) (hW : (rest.map fun v => v.category).sum ≤ W)
    (hf : rm.frames + 1 ≤ R.frames) (hlo : W + (ml' + 11) + rm.locals ≤ R.locals) (hk : kc + rm.cells = kc') (hk2 : kn + rm.slots = kn') (hc : kc' ≤ R.cells) (hl : kn' ≤ R.slots)
    (k : ∀ v h', Q' v h' → Wk E h' kc' kn' pc' ls (v.toList ++ rest)) : Wk E h kc kn pc ls st := by
  obtain ⟨hd, rfl⟩ := hd
  obtain ⟨p, e, s, m, args, below, meth, c, rfl, g1, g2, g3, g4, g5, hZ, hown, g8, g9⟩ := K
  intro T locs X eT N
  have hn : n0 ≤ h.size := by rw [← eT]; exact Nat.le_trans g9 X.same.2.1
  subst hst hk hk2
  subst hrt
  obtain ⟨v, vm₁, ⟨T', L', k', n'⟩, -, X', ⟨L, ⟨hQ, hFr⟩, e1, e2, e3⟩, q'⟩ := X.specialBack g1 (y := y') hy1 hown (mvT hZ wl) (mvT hZ wn) (mvT hZ wc) hy (backOf (W := W) (Q := fun v h L => Q' v h ∧ Fr n0 L) (con hn []) hZ wc wz hf hlo) (g := mkF m pc ls (as.reverse ++ .ref a :: rest)) rfl (by rw [g3]; exact hsz) (Steps.refl _) (a := a) (argsL := as) (rest := rest) hlen rfl (by show 2 * 0 + _ ≤ _; omega) (hb g2 hd) (fun _ _ => ⟨rfl, eT, hc, hl⟩)
  dsimp only [Pt.U, Pt.locs, Pt.cells, Pt.slots] at X' e1 e2 e3 q' hQ
  subst e1 e2 e3
  obtain ⟨s₂, o, q, r⟩ := k v T'.heap hQ T' _ X' rfl (Fr.app N hFr)
  exact ⟨s₂, o, q'.trans q, r⟩
theorem Kx.callV (K : Kx E y bytes ml rt l Z R n0 Q) {i : Nat} {y' : MethodName} {bytes' : ByteArray} {ml' : Nat} {rt' : Option FieldType} {rm : Room} {Q' : Option Value → Heap → Prop} (as rest : List Value) (W kc' kn' : Nat) {C : String} (hd : Dc bytes pc (.invokevirtual i) 3 pc')
    (wl : (Jvm.Cond.methodLink y.cls i y').before a0 Z = true) (wd : (Jvm.Cond.declares y').before a0 Z = true) (wse : (Jvm.Cond.selects C y' y').before a0 Z = true) (wn : (Jvm.Cond.instanceMethod y').before a0 Z = true) (wz : (Jvm.Cond.initialized y'.cls).before a0 Z = true) (wc : (Jvm.Cond.code y' bytes' ml' rt').before a0 Z = true) (hy : y'.cls ≠ "java/lang/invoke/MethodHandle" ∧ y'.cls ≠ "java/lang/invoke/VarHandle")
    (con : Con l Z y' bytes' ml' rt' rm (.ref a :: as).toArray h n0 Q') (X0 : Exa Z h a C) (hst : st = as.reverse ++ .ref a :: rest) (hlen : ∀ sig, parseMethodDescriptor y'.desc = some sig → as.length = sig.parameters.length) (hsz : ls.size = ml) (hW : (rest.map fun v => v.category).sum ≤ W)
    (hf : rm.frames + 1 ≤ R.frames) (hlo : W + (ml' + 11) + rm.locals ≤ R.locals) (hk : kc + rm.cells = kc') (hk2 : kn + rm.slots = kn') (hc : kc' ≤ R.cells) (hl : kn' ≤ R.slots)
    (k : ∀ v h', Q' v h' → Wk E h' kc' kn' pc' ls (v.toList ++ rest)) : Wk E h kc kn pc ls st := by
  obtain ⟨hd, rfl⟩ := hd
  obtain ⟨p, e, s, m, args, below, meth, c, rfl, g1, g2, g3, g4, g5, hZ, hown, g8, g9⟩ := K
  intro T locs X eT N
  have hn : n0 ≤ h.size := by rw [← eT]; exact Nat.le_trans g9 X.same.2.1
  subst hst hk hk2
  obtain ⟨cq, kq, qa, qb, qc⟩ := isOf hZ eT X0
  obtain ⟨v, vm₁, ⟨T', L', k', n'⟩, -, X', ⟨L, ⟨hQ, hFr⟩, e1, e2, e3⟩, q'⟩ := X.virtualBack g1 (y := y') (z := y') hown (mvT hZ wl) (mvT hZ wd) (notFace_of_selects (args := #[]) (mvT hZ wse)) (mvT hZ wse) (mvT hZ wn) hy (backOf (W := W) (Q := fun v h L => Q' v h ∧ Fr n0 L) (con hn []) hZ wc wz hf hlo) qa qc (g := mkF m pc ls (as.reverse ++ .ref a :: rest)) rfl (by rw [g3]; exact hsz) (Steps.refl _) (argsL := as) (rest := rest) hlen rfl (by show 2 * 0 + _ ≤ _; omega) (hb g2 hd) (fun _ _ => ⟨rfl, eT, hc, hl⟩)
  dsimp only [Pt.U, Pt.locs, Pt.cells, Pt.slots] at X' e1 e2 e3 q' hQ
  subst e1 e2 e3
  obtain ⟨s₂, o, q, r⟩ := k v T'.heap hQ T' _ X' rfl (Fr.app N hFr)
  exact ⟨s₂, o, q'.trans q, r⟩
theorem Kx.callP (K : Kx E y bytes ml rt l Z R n0 Q) {i : Nat} {y' : MethodName} {bytes' : ByteArray} {ml' : Nat} {rt' : Option FieldType} {rm : Room} {Q' : Option Value → Heap → Prop} (as rest : List Value) (W kc' kn' : Nat) {C : String} (hd : Dc bytes pc (.invokevirtual i) 3 pc')
    (wl : (Jvm.Cond.methodLink y.cls i y').before a0 Z = true) (wp : (Jvm.Cond.privateMethod y').before a0 Z = true) (wse : (Jvm.Cond.selects y'.cls y' y').before a0 Z = true) (wn : (Jvm.Cond.instanceMethod y').before a0 Z = true) (wz : (Jvm.Cond.initialized y'.cls).before a0 Z = true) (wc : (Jvm.Cond.code y' bytes' ml' rt').before a0 Z = true) (hy : y'.cls ≠ "java/lang/invoke/MethodHandle" ∧ y'.cls ≠ "java/lang/invoke/VarHandle")
    (con : Con l Z y' bytes' ml' rt' rm (.ref a :: as).toArray h n0 Q') (X0 : Exa Z h a C) (hst : st = as.reverse ++ .ref a :: rest) (hlen : ∀ sig, parseMethodDescriptor y'.desc = some sig → as.length = sig.parameters.length) (hsz : ls.size = ml) (hW : (rest.map fun v => v.category).sum ≤ W)
    (hf : rm.frames + 1 ≤ R.frames) (hlo : W + (ml' + 11) + rm.locals ≤ R.locals) (hk : kc + rm.cells = kc') (hk2 : kn + rm.slots = kn') (hc : kc' ≤ R.cells) (hl : kn' ≤ R.slots)
    (k : ∀ v h', Q' v h' → Wk E h' kc' kn' pc' ls (v.toList ++ rest)) : Wk E h kc kn pc ls st := by
  obtain ⟨hd, rfl⟩ := hd
  obtain ⟨p, e, s, m, args, below, meth, c, rfl, g1, g2, g3, g4, g5, hZ, hown, g8, g9⟩ := K
  intro T locs X eT N
  have hn : n0 ≤ h.size := by rw [← eT]; exact Nat.le_trans g9 X.same.2.1
  subst hst hk hk2
  obtain ⟨cq, qa, qb⟩ := X0.cell
  obtain ⟨v, vm₁, ⟨T', L', k', n'⟩, -, X', ⟨L, ⟨hQ, hFr⟩, e1, e2, e3⟩, q'⟩ := X.privateBack g1 (y := y') hown (mvT hZ wl) (mvT hZ wn) (mvT hZ wse) (Cond.privateMethod_at (mvP hZ wp (args := #[]))) (mvT hZ wc) hy (backOf (W := W) (Q := fun v h L => Q' v h ∧ Fr n0 L) (con hn []) hZ wc wz hf hlo) (g := mkF m pc ls (as.reverse ++ .ref a :: rest)) rfl (by rw [g3]; exact hsz) (Steps.refl _) (a := a) (by rw [eT]; exact qa) qb (argsL := as) (rest := rest) hlen rfl (by show 2 * 0 + _ ≤ _; omega) (hb g2 hd) (fun _ _ => ⟨rfl, eT, hc, hl⟩)
  dsimp only [Pt.U, Pt.locs, Pt.cells, Pt.slots] at X' e1 e2 e3 q' hQ
  subst e1 e2 e3
  obtain ⟨s₂, o, q, r⟩ := k v T'.heap hQ T' _ X' rfl (Fr.app N hFr)
  exact ⟨s₂, o, q'.trans q, r⟩
/-- how a call goes on: it hands back one value and leaves the heap; a value; nothing; a reference -/
theorem goP {val : Value} {rest : List Value} (k : Wk E h kc kn pc ls (val :: rest)) : ∀ v h', (v = some val ∧ h' = h) → Wk E h' kc kn pc ls (v.toList ++ rest) := fun v h' q => by obtain ⟨rfl, rfl⟩ := q; exact k
theorem goV {val : Value} {rest : List Value} {Qh : Heap → Prop} (k : ∀ h', Qh h' → Wk E h' kc kn pc ls (val :: rest)) : ∀ v h', (v = some val ∧ Qh h') → Wk E h' kc kn pc ls (v.toList ++ rest) := fun v h' q => by obtain ⟨rfl, q⟩ := q; exact k h' q
theorem goN {rest : List Value} (k : Wk E h kc kn pc ls rest) : ∀ v h', (v = (none : Option Value) ∧ h' = h) → Wk E h' kc kn pc ls (v.toList ++ rest) := fun v h' q => by obtain ⟨rfl, rfl⟩ := q; exact k
theorem goU {rest : List Value} {Qh : Heap → Prop} (k : ∀ h', Qh h' → Wk E h' kc kn pc ls rest) : ∀ v h', (v = (none : Option Value) ∧ Qh h') → Wk E h' kc kn pc ls (v.toList ++ rest) := fun v h' q => by obtain ⟨rfl, q⟩ := q; exact k h' q
theorem goR {rest : List Value} {Qr : Addr → Heap → Prop} (k : ∀ a h', Qr a h' → Wk E h' kc kn pc ls (.ref a :: rest)) : ∀ v h', (∃ a, v = some (.ref a) ∧ Qr a h') → Wk E h' kc kn pc ls (v.toList ++ rest) := fun v h' q => by obtain ⟨a, rfl, q⟩ := q; exact k a h' q
theorem goI {rest : List Value} {Qr : Int32 → Heap → Prop} (k : ∀ a h', Qr a h' → Wk E h' kc kn pc ls (.int a :: rest)) : ∀ v h', (∃ a, v = some (.int a) ∧ Qr a h') → Wk E h' kc kn pc ls (v.toList ++ rest) := fun v h' q => by obtain ⟨a, rfl, q⟩ := q; exact k a h' q
theorem Kx.ret (K : Kx E y bytes ml none l Z R n0 Q) (hd : Dc bytes pc .return_ 1 pc') (hc : kc ≤ R.cells) (hl : kn ≤ R.slots) (hQ : Q none h) : Wk E h kc kn pc ls [] := by
  obtain ⟨p, e, s, m, args, below, meth, c, rfl, g1, g2, g3, g4, g5, hZ, hown, g8, g9⟩ := K
  intro T locs X eT N
  obtain ⟨fs, hr, hrun, hended, hW, hsame⟩ := X.leave (v := none) (fun _ => rfl) g5
  exact ⟨_, _, X.returnOut g1 g4 (hb g2 hd.1) hr, hrun, hended, _, _, rfl, ⟨(by show Q none T.heap; rw [eT]; exact hQ), N⟩, ⟨_, rfl⟩, hW, hsame.mono hc hl⟩
theorem Kx.retW {t : FieldType} {w : Value} {i : Instr} (K : Kx E y bytes ml (some t) l Z R n0 Q) (hd : Dc bytes pc i 1 pc') (hna : narrow t w = w) (hi : (i = .ireturn ∧ (t = .int ∨ t = .boolean ∨ t = .byte ∨ t = .char ∨ t = .short) ∧ ∃ z, w = .int z) ∨ (i = .lreturn ∧ t = .long ∧ ∃ z, w = .long z) ∨ (i = .dreturn ∧ t = .double ∧ ∃ z, w = .double z) ∨ (i = .freturn ∧ t = .float ∧ ∃ z, w = .float z) ∨ (i = .areturn ∧ t.isReference = true ∧ w.isRef = true)) (hc : kc ≤ R.cells) (hl : kn ≤ R.slots) (hQ : Q (some w) h) : Wk E h kc kn pc ls (w :: st) := by
  obtain ⟨p, e, s, m, args, below, meth, c, rfl, g1, g2, g3, g4, g5, hZ, hown, g8, g9⟩ := K
  intro T locs X eT N
  obtain ⟨fs, hr, hrun, hended, hW, hsame⟩ := X.leave (v := some w) (fun h => by rw [g4] at h; cases h) g5
  exact ⟨_, _, retOut X g1 g4 hna hi (hb g2 hd.1) hr, hrun, hended, _, _, rfl, ⟨(by show Q (some w) T.heap; rw [eT]; exact hQ), N⟩, ⟨_, rfl⟩, hW, hsame.mono hc hl⟩
theorem Kx.ireturn {t : FieldType} {z : Int32} (K : Kx E y bytes ml (some t) l Z R n0 Q) (hd : Dc bytes pc .ireturn 1 pc') (ht : t = .int ∨ t = .boolean ∨ t = .byte ∨ t = .char ∨ t = .short) (hna : narrow t (.int z) = .int z) (hc : kc ≤ R.cells) (hl : kn ≤ R.slots) (hQ : Q (some (.int z)) h) : Wk E h kc kn pc ls (.int z :: st) :=
  K.retW hd hna (Or.inl ⟨rfl, ht, z, rfl⟩) hc hl hQ
theorem Kx.lreturn {z : Int64} (K : Kx E y bytes ml (some .long) l Z R n0 Q) (hd : Dc bytes pc .lreturn 1 pc') (hc : kc ≤ R.cells) (hl : kn ≤ R.slots) (hQ : Q (some (.long z)) h) : Wk E h kc kn pc ls (.long z :: st) :=
  K.retW hd rfl (Or.inr (Or.inl ⟨rfl, rfl, z, rfl⟩)) hc hl hQ
theorem Kx.areturn {t : FieldType} {w : Value} (K : Kx E y bytes ml (some t) l Z R n0 Q) (hd : Dc bytes pc .areturn 1 pc') (ht : t.isReference = true) (hw : w.isRef = true) (hna : narrow t w = w) (hc : kc ≤ R.cells) (hl : kn ≤ R.slots) (hQ : Q (some w) h) : Wk E h kc kn pc ls (w :: st) :=
  K.retW hd hna (Or.inr (Or.inr (Or.inr (Or.inr ⟨rfl, ht, hw⟩)))) hc hl hQ
theorem narB {P : Prop} [Decidable P] : narrow .boolean (.int (if P then 1 else 0)) = .int (if P then 1 else 0) := by split <;> rfl
theorem narB' {P : Prop} [Decidable P] : narrow .boolean (.int (if P then 0 else 1)) = .int (if P then 0 else 1) := by split <;> rfl
end Own
end Jvm.Pilot.@@N@@
namespace Jvm.Pilot.@@N@@
open Jvm Jvm.ClassFile Sem Op Lib Jvm.Free Jvm.Stand Jvm.LawKit Jvm.RoadKit Bundle Jvm.Pilot.@@N@@.Jvm.D
theorem dI_0 : Dc prog_45_method_1_code 0 (.aload_n 0) 1 1 := ⟨by decide +kernel, rfl⟩
theorem dI_1 : Dc prog_45_method_1_code 1 (.invokespecial 1) 3 4 := ⟨by decide +kernel, rfl⟩
set_option maxRecDepth 65536 in
theorem wd7 {Z : State} {a0 : Array Value} (hw : ∀ d ∈ tables_1, d.before a0 Z = true) : (Jvm.Cond.methodLink "com/example/educe/educe/index/PostingList" (1 : Nat) ({ cls := "java/lang/Object", name := "<init>", desc := "()V" } : Jvm.MethodName)).before a0 Z = true := hw _ (List.mem_of_getElem? (i := 7) rfl)
set_option maxRecDepth 65536 in
theorem wd8 {Z : State} {a0 : Array Value} (hw : ∀ d ∈ tables_1, d.before a0 Z = true) : (Jvm.Cond.instanceMethod ({ cls := "java/lang/Object", name := "<init>", desc := "()V" } : Jvm.MethodName)).before a0 Z = true := hw _ (List.mem_of_getElem? (i := 8) rfl)
set_option maxRecDepth 65536 in
theorem wd9 {Z : State} {a0 : Array Value} (hw : ∀ d ∈ tables_1, d.before a0 Z = true) : (Jvm.Cond.code ({ cls := "java/lang/Object", name := "<init>", desc := "()V" } : Jvm.MethodName) object_method_1_code (1 : Nat) (Option.none : Option Jvm.ClassFile.FieldType)).before a0 Z = true := hw _ (List.mem_of_getElem? (i := 9) rfl)
theorem dI_4 : Dc prog_45_method_1_code 4 (.aload_n 0) 1 5 := ⟨by decide +kernel, rfl⟩
theorem dI_5 : Dc prog_45_method_1_code 5 (.aload_n 1) 1 6 := ⟨by decide +kernel, rfl⟩
theorem dI_6 : Dc prog_45_method_1_code 6 (.putfield 7) 3 9 := ⟨by decide +kernel, rfl⟩
set_option maxRecDepth 65536 in
theorem wd11 {Z : State} {a0 : Array Value} (hw : ∀ d ∈ tables_1, d.before a0 Z = true) : (Jvm.Cond.laysFinal "com/example/educe/educe/index/PostingList" "com/example/educe/educe/index/PostingList" "documents" "[I").before a0 Z = true := hw _ (List.mem_of_getElem? (i := 11) rfl)
set_option maxRecDepth 65536 in
theorem wd10 {Z : State} {a0 : Array Value} (hw : ∀ d ∈ tables_1, d.before a0 Z = true) : (Jvm.Cond.fieldLink "com/example/educe/educe/index/PostingList" (7 : Nat) "com/example/educe/educe/index/PostingList" "documents" "[I").before a0 Z = true := hw _ (List.mem_of_getElem? (i := 10) rfl)
set_option maxRecDepth 65536 in
theorem wd2 {Z : State} {a0 : Array Value} (hw : ∀ d ∈ tables_1, d.before a0 Z = true) : (Jvm.Cond.instantiable "com/example/educe/educe/index/PostingList" (4 : Nat)).before a0 Z = true := hw _ (List.mem_of_getElem? (i := 2) rfl)
set_option maxRecDepth 65536 in
theorem wd13 {Z : State} {a0 : Array Value} (hw : ∀ d ∈ tables_1, d.before a0 Z = true) : (Jvm.Cond.laysFinal "com/example/educe/educe/index/PostingList" "com/example/educe/educe/index/PostingList" "frequencies" "[I").before a0 Z = true := hw _ (List.mem_of_getElem? (i := 13) rfl)
set_option maxRecDepth 65536 in
theorem wd15 {Z : State} {a0 : Array Value} (hw : ∀ d ∈ tables_1, d.before a0 Z = true) : (Jvm.Cond.laysFinal "com/example/educe/educe/index/PostingList" "com/example/educe/educe/index/PostingList" "positions" "[I").before a0 Z = true := hw _ (List.mem_of_getElem? (i := 15) rfl)
set_option maxRecDepth 65536 in
theorem wd17 {Z : State} {a0 : Array Value} (hw : ∀ d ∈ tables_1, d.before a0 Z = true) : (Jvm.Cond.laysFinal "com/example/educe/educe/index/PostingList" "com/example/educe/educe/index/PostingList" "firstPositions" "[I").before a0 Z = true := hw _ (List.mem_of_getElem? (i := 17) rfl)
theorem dI_9 : Dc prog_45_method_1_code 9 (.aload_n 0) 1 10 := ⟨by decide +kernel, rfl⟩
theorem dI_10 : Dc prog_45_method_1_code 10 (.aload_n 2) 1 11 := ⟨by decide +kernel, rfl⟩
theorem dI_11 : Dc prog_45_method_1_code 11 (.putfield 13) 3 14 := ⟨by decide +kernel, rfl⟩
set_option maxRecDepth 65536 in
theorem wd12 {Z : State} {a0 : Array Value} (hw : ∀ d ∈ tables_1, d.before a0 Z = true) : (Jvm.Cond.fieldLink "com/example/educe/educe/index/PostingList" (13 : Nat) "com/example/educe/educe/index/PostingList" "frequencies" "[I").before a0 Z = true := hw _ (List.mem_of_getElem? (i := 12) rfl)
theorem dI_14 : Dc prog_45_method_1_code 14 (.aload_n 0) 1 15 := ⟨by decide +kernel, rfl⟩
theorem dI_15 : Dc prog_45_method_1_code 15 (.aload_n 3) 1 16 := ⟨by decide +kernel, rfl⟩
theorem dI_16 : Dc prog_45_method_1_code 16 (.putfield 16) 3 19 := ⟨by decide +kernel, rfl⟩
set_option maxRecDepth 65536 in
theorem wd14 {Z : State} {a0 : Array Value} (hw : ∀ d ∈ tables_1, d.before a0 Z = true) : (Jvm.Cond.fieldLink "com/example/educe/educe/index/PostingList" (16 : Nat) "com/example/educe/educe/index/PostingList" "positions" "[I").before a0 Z = true := hw _ (List.mem_of_getElem? (i := 14) rfl)
theorem dI_19 : Dc prog_45_method_1_code 19 (.aload_n 3) 1 20 := ⟨by decide +kernel, rfl⟩
theorem dI_20 : Db prog_45_method_1_code 20 (.ifnonnull 9) 9 23 29 := ⟨by decide +kernel, rfl, by decide, by decide⟩
theorem dI_23 : Dc prog_45_method_1_code 23 (.aload_n 0) 1 24 := ⟨by decide +kernel, rfl⟩
theorem dI_24 : Dc prog_45_method_1_code 24 .aconst_null 1 25 := ⟨by decide +kernel, rfl⟩
theorem dI_25 : Dc prog_45_method_1_code 25 (.putfield 19) 3 28 := ⟨by decide +kernel, rfl⟩
set_option maxRecDepth 65536 in
theorem wd16 {Z : State} {a0 : Array Value} (hw : ∀ d ∈ tables_1, d.before a0 Z = true) : (Jvm.Cond.fieldLink "com/example/educe/educe/index/PostingList" (19 : Nat) "com/example/educe/educe/index/PostingList" "firstPositions" "[I").before a0 Z = true := hw _ (List.mem_of_getElem? (i := 16) rfl)
theorem dI_28 : Dc prog_45_method_1_code 28 .return_ 1 29 := ⟨by decide +kernel, rfl⟩
theorem efI (m : MethodId) (x0 : Addr) (x1 : Addr) (x2 : Addr) : entryFrame m #[.ref x0, .ref x1, .ref x2, .null] 5 = mkF m 0 #[.val (.ref x0), .val (.ref x1), .val (.ref x2), .val .null, .unset] [] := by first | (simp [entryFrame, mkF, argsToLocals, Value.category]; done) | rfl
theorem pnI : plainFor (⟨"com/example/educe/educe/index/PostingList", "<init>", "([I[I[I)V"⟩ : MethodName) = true := plainFor_of_name (by first | (simp [plainName, overriddenIn]; done) | decide +kernel)
theorem dF0_0 : Dc prog_45_method_6_code 0 (.lconst 0) 1 1 := ⟨by decide +kernel, rfl⟩
theorem dF0_1 : Dc prog_45_method_6_code 1 (.lstore_n 1) 1 2 := ⟨by decide +kernel, rfl⟩
theorem dF0_2 : Dc prog_45_method_6_code 2 (.aload_n 0) 1 3 := ⟨by decide +kernel, rfl⟩
theorem dF0_3 : Dc prog_45_method_6_code 3 (.getfield 13) 3 6 := ⟨by decide +kernel, rfl⟩
theorem dF0_6 : Dc prog_45_method_6_code 6 (.astore_n 3) 1 7 := ⟨by decide +kernel, rfl⟩
theorem dF0_7 : Dc prog_45_method_6_code 7 (.aload_n 3) 1 8 := ⟨by decide +kernel, rfl⟩
theorem dF0_8 : Dc prog_45_method_6_code 8 .arraylength 1 9 := ⟨by decide +kernel, rfl⟩
theorem dF0_9 : Dc prog_45_method_6_code 9 (.istore 4) 2 11 := ⟨by decide +kernel, rfl⟩
theorem dF0_11 : Dc prog_45_method_6_code 11 (.iconst 0) 1 12 := ⟨by decide +kernel, rfl⟩
theorem dF0_12 : Dc prog_45_method_6_code 12 (.istore 5) 2 14 := ⟨by decide +kernel, rfl⟩
theorem dF0_14 : Dc prog_45_method_6_code 14 (.iload 5) 2 16 := ⟨by decide +kernel, rfl⟩
theorem dF0_16 : Dc prog_45_method_6_code 16 (.iload 4) 2 18 := ⟨by decide +kernel, rfl⟩
theorem dF0_18 : Db prog_45_method_6_code 18 (.if_icmp .ge 21) 21 21 39 := ⟨by decide +kernel, rfl, by decide, by decide⟩
theorem dF0_39 : Dc prog_45_method_6_code 39 (.lload_n 1) 1 40 := ⟨by decide +kernel, rfl⟩
theorem dF0_40 : Dc prog_45_method_6_code 40 .lreturn 1 41 := ⟨by decide +kernel, rfl⟩
theorem efF0 (m : MethodId) (x0 : Addr) : entryFrame m #[.ref x0] 7 = mkF m 0 #[.val (.ref x0), .unset, .unset, .unset, .unset, .unset, .unset] [] := by first | (simp [entryFrame, mkF, argsToLocals, Value.category]; done) | rfl
theorem pnF0 : plainFor (⟨"com/example/educe/educe/index/PostingList", "collectionFrequency", "()J"⟩ : MethodName) = true := plainFor_of_name (by first | (simp [plainName, overriddenIn]; done) | decide +kernel)
theorem dF1_0 : Dc prog_45_method_6_code 0 (.lconst 0) 1 1 := ⟨by decide +kernel, rfl⟩
theorem dF1_1 : Dc prog_45_method_6_code 1 (.lstore_n 1) 1 2 := ⟨by decide +kernel, rfl⟩
theorem dF1_2 : Dc prog_45_method_6_code 2 (.aload_n 0) 1 3 := ⟨by decide +kernel, rfl⟩
theorem dF1_3 : Dc prog_45_method_6_code 3 (.getfield 13) 3 6 := ⟨by decide +kernel, rfl⟩
theorem dF1_6 : Dc prog_45_method_6_code 6 (.astore_n 3) 1 7 := ⟨by decide +kernel, rfl⟩
theorem dF1_7 : Dc prog_45_method_6_code 7 (.aload_n 3) 1 8 := ⟨by decide +kernel, rfl⟩
theorem dF1_8 : Dc prog_45_method_6_code 8 .arraylength 1 9 := ⟨by decide +kernel, rfl⟩
theorem dF1_9 : Dc prog_45_method_6_code 9 (.istore 4) 2 11 := ⟨by decide +kernel, rfl⟩
theorem dF1_11 : Dc prog_45_method_6_code 11 (.iconst 0) 1 12 := ⟨by decide +kernel, rfl⟩
theorem dF1_12 : Dc prog_45_method_6_code 12 (.istore 5) 2 14 := ⟨by decide +kernel, rfl⟩
theorem dF1_14 : Dc prog_45_method_6_code 14 (.iload 5) 2 16 := ⟨by decide +kernel, rfl⟩
theorem dF1_16 : Dc prog_45_method_6_code 16 (.iload 4) 2 18 := ⟨by decide +kernel, rfl⟩
theorem dF1_18 : Db prog_45_method_6_code 18 (.if_icmp .ge 21) 21 21 39 := ⟨by decide +kernel, rfl, by decide, by decide⟩
theorem dF1_21 : Dc prog_45_method_6_code 21 (.aload_n 3) 1 22 := ⟨by decide +kernel, rfl⟩
theorem dF1_22 : Dc prog_45_method_6_code 22 (.iload 5) 2 24 := ⟨by decide +kernel, rfl⟩
theorem dF1_24 : Dc prog_45_method_6_code 24 .iaload 1 25 := ⟨by decide +kernel, rfl⟩
theorem dF1_25 : Dc prog_45_method_6_code 25 (.istore 6) 2 27 := ⟨by decide +kernel, rfl⟩
theorem dF1_27 : Dc prog_45_method_6_code 27 (.lload_n 1) 1 28 := ⟨by decide +kernel, rfl⟩
theorem dF1_28 : Dc prog_45_method_6_code 28 (.iload 6) 2 30 := ⟨by decide +kernel, rfl⟩
theorem dF1_30 : Dc prog_45_method_6_code 30 .i2l 1 31 := ⟨by decide +kernel, rfl⟩
theorem dF1_31 : Dc prog_45_method_6_code 31 .ladd 1 32 := ⟨by decide +kernel, rfl⟩
theorem dF1_32 : Dc prog_45_method_6_code 32 (.lstore_n 1) 1 33 := ⟨by decide +kernel, rfl⟩
theorem dF1_33 : Dc prog_45_method_6_code 33 (.iinc 5 1) 3 36 := ⟨by decide +kernel, rfl⟩
theorem dF1_36 : Db prog_45_method_6_code 36 (.goto (-22)) (-22) 39 14 := ⟨by decide +kernel, rfl, by decide, by decide⟩
theorem dF1_39 : Dc prog_45_method_6_code 39 (.lload_n 1) 1 40 := ⟨by decide +kernel, rfl⟩
theorem dF1_40 : Dc prog_45_method_6_code 40 .lreturn 1 41 := ⟨by decide +kernel, rfl⟩
theorem efF1 (m : MethodId) (x0 : Addr) : entryFrame m #[.ref x0] 7 = mkF m 0 #[.val (.ref x0), .unset, .unset, .unset, .unset, .unset, .unset] [] := by first | (simp [entryFrame, mkF, argsToLocals, Value.category]; done) | rfl
theorem pnF1 : plainFor (⟨"com/example/educe/educe/index/PostingList", "collectionFrequency", "()J"⟩ : MethodName) = true := plainFor_of_name (by first | (simp [plainName, overriddenIn]; done) | decide +kernel)
theorem dF2_0 : Dc prog_45_method_6_code 0 (.lconst 0) 1 1 := ⟨by decide +kernel, rfl⟩
theorem dF2_1 : Dc prog_45_method_6_code 1 (.lstore_n 1) 1 2 := ⟨by decide +kernel, rfl⟩
theorem dF2_2 : Dc prog_45_method_6_code 2 (.aload_n 0) 1 3 := ⟨by decide +kernel, rfl⟩
theorem dF2_3 : Dc prog_45_method_6_code 3 (.getfield 13) 3 6 := ⟨by decide +kernel, rfl⟩
theorem dF2_6 : Dc prog_45_method_6_code 6 (.astore_n 3) 1 7 := ⟨by decide +kernel, rfl⟩
theorem dF2_7 : Dc prog_45_method_6_code 7 (.aload_n 3) 1 8 := ⟨by decide +kernel, rfl⟩
theorem dF2_8 : Dc prog_45_method_6_code 8 .arraylength 1 9 := ⟨by decide +kernel, rfl⟩
theorem dF2_9 : Dc prog_45_method_6_code 9 (.istore 4) 2 11 := ⟨by decide +kernel, rfl⟩
theorem dF2_11 : Dc prog_45_method_6_code 11 (.iconst 0) 1 12 := ⟨by decide +kernel, rfl⟩
theorem dF2_12 : Dc prog_45_method_6_code 12 (.istore 5) 2 14 := ⟨by decide +kernel, rfl⟩
theorem dF2_14 : Dc prog_45_method_6_code 14 (.iload 5) 2 16 := ⟨by decide +kernel, rfl⟩
theorem dF2_16 : Dc prog_45_method_6_code 16 (.iload 4) 2 18 := ⟨by decide +kernel, rfl⟩
theorem dF2_18 : Db prog_45_method_6_code 18 (.if_icmp .ge 21) 21 21 39 := ⟨by decide +kernel, rfl, by decide, by decide⟩
theorem dF2_21 : Dc prog_45_method_6_code 21 (.aload_n 3) 1 22 := ⟨by decide +kernel, rfl⟩
theorem dF2_22 : Dc prog_45_method_6_code 22 (.iload 5) 2 24 := ⟨by decide +kernel, rfl⟩
theorem dF2_24 : Dc prog_45_method_6_code 24 .iaload 1 25 := ⟨by decide +kernel, rfl⟩
theorem dF2_25 : Dc prog_45_method_6_code 25 (.istore 6) 2 27 := ⟨by decide +kernel, rfl⟩
theorem dF2_27 : Dc prog_45_method_6_code 27 (.lload_n 1) 1 28 := ⟨by decide +kernel, rfl⟩
theorem dF2_28 : Dc prog_45_method_6_code 28 (.iload 6) 2 30 := ⟨by decide +kernel, rfl⟩
theorem dF2_30 : Dc prog_45_method_6_code 30 .i2l 1 31 := ⟨by decide +kernel, rfl⟩
theorem dF2_31 : Dc prog_45_method_6_code 31 .ladd 1 32 := ⟨by decide +kernel, rfl⟩
theorem dF2_32 : Dc prog_45_method_6_code 32 (.lstore_n 1) 1 33 := ⟨by decide +kernel, rfl⟩
theorem dF2_33 : Dc prog_45_method_6_code 33 (.iinc 5 1) 3 36 := ⟨by decide +kernel, rfl⟩
theorem dF2_36 : Db prog_45_method_6_code 36 (.goto (-22)) (-22) 39 14 := ⟨by decide +kernel, rfl, by decide, by decide⟩
theorem dF2_39 : Dc prog_45_method_6_code 39 (.lload_n 1) 1 40 := ⟨by decide +kernel, rfl⟩
theorem dF2_40 : Dc prog_45_method_6_code 40 .lreturn 1 41 := ⟨by decide +kernel, rfl⟩
theorem efF2 (m : MethodId) (x0 : Addr) : entryFrame m #[.ref x0] 7 = mkF m 0 #[.val (.ref x0), .unset, .unset, .unset, .unset, .unset, .unset] [] := by first | (simp [entryFrame, mkF, argsToLocals, Value.category]; done) | rfl
theorem pnF2 : plainFor (⟨"com/example/educe/educe/index/PostingList", "collectionFrequency", "()J"⟩ : MethodName) = true := plainFor_of_name (by first | (simp [plainName, overriddenIn]; done) | decide +kernel)
theorem dF3_0 : Dc prog_45_method_6_code 0 (.lconst 0) 1 1 := ⟨by decide +kernel, rfl⟩
theorem dF3_1 : Dc prog_45_method_6_code 1 (.lstore_n 1) 1 2 := ⟨by decide +kernel, rfl⟩
theorem dF3_2 : Dc prog_45_method_6_code 2 (.aload_n 0) 1 3 := ⟨by decide +kernel, rfl⟩
theorem dF3_3 : Dc prog_45_method_6_code 3 (.getfield 13) 3 6 := ⟨by decide +kernel, rfl⟩
theorem dF3_6 : Dc prog_45_method_6_code 6 (.astore_n 3) 1 7 := ⟨by decide +kernel, rfl⟩
theorem dF3_7 : Dc prog_45_method_6_code 7 (.aload_n 3) 1 8 := ⟨by decide +kernel, rfl⟩
theorem dF3_8 : Dc prog_45_method_6_code 8 .arraylength 1 9 := ⟨by decide +kernel, rfl⟩
theorem dF3_9 : Dc prog_45_method_6_code 9 (.istore 4) 2 11 := ⟨by decide +kernel, rfl⟩
theorem dF3_11 : Dc prog_45_method_6_code 11 (.iconst 0) 1 12 := ⟨by decide +kernel, rfl⟩
theorem dF3_12 : Dc prog_45_method_6_code 12 (.istore 5) 2 14 := ⟨by decide +kernel, rfl⟩
theorem dF3_14 : Dc prog_45_method_6_code 14 (.iload 5) 2 16 := ⟨by decide +kernel, rfl⟩
theorem dF3_16 : Dc prog_45_method_6_code 16 (.iload 4) 2 18 := ⟨by decide +kernel, rfl⟩
theorem dF3_18 : Db prog_45_method_6_code 18 (.if_icmp .ge 21) 21 21 39 := ⟨by decide +kernel, rfl, by decide, by decide⟩
theorem dF3_21 : Dc prog_45_method_6_code 21 (.aload_n 3) 1 22 := ⟨by decide +kernel, rfl⟩
theorem dF3_22 : Dc prog_45_method_6_code 22 (.iload 5) 2 24 := ⟨by decide +kernel, rfl⟩
theorem dF3_24 : Dc prog_45_method_6_code 24 .iaload 1 25 := ⟨by decide +kernel, rfl⟩
theorem dF3_25 : Dc prog_45_method_6_code 25 (.istore 6) 2 27 := ⟨by decide +kernel, rfl⟩
theorem dF3_27 : Dc prog_45_method_6_code 27 (.lload_n 1) 1 28 := ⟨by decide +kernel, rfl⟩
theorem dF3_28 : Dc prog_45_method_6_code 28 (.iload 6) 2 30 := ⟨by decide +kernel, rfl⟩
theorem dF3_30 : Dc prog_45_method_6_code 30 .i2l 1 31 := ⟨by decide +kernel, rfl⟩
theorem dF3_31 : Dc prog_45_method_6_code 31 .ladd 1 32 := ⟨by decide +kernel, rfl⟩
theorem dF3_32 : Dc prog_45_method_6_code 32 (.lstore_n 1) 1 33 := ⟨by decide +kernel, rfl⟩
theorem dF3_33 : Dc prog_45_method_6_code 33 (.iinc 5 1) 3 36 := ⟨by decide +kernel, rfl⟩
theorem dF3_36 : Db prog_45_method_6_code 36 (.goto (-22)) (-22) 39 14 := ⟨by decide +kernel, rfl, by decide, by decide⟩
theorem dF3_39 : Dc prog_45_method_6_code 39 (.lload_n 1) 1 40 := ⟨by decide +kernel, rfl⟩
theorem dF3_40 : Dc prog_45_method_6_code 40 .lreturn 1 41 := ⟨by decide +kernel, rfl⟩
theorem efF3 (m : MethodId) (x0 : Addr) : entryFrame m #[.ref x0] 7 = mkF m 0 #[.val (.ref x0), .unset, .unset, .unset, .unset, .unset, .unset] [] := by first | (simp [entryFrame, mkF, argsToLocals, Value.category]; done) | rfl
theorem pnF3 : plainFor (⟨"com/example/educe/educe/index/PostingList", "collectionFrequency", "()J"⟩ : MethodName) = true := plainFor_of_name (by first | (simp [plainName, overriddenIn]; done) | decide +kernel)
theorem d0_0 : Dc code 0 (.iload_n 0) 1 1 := ⟨by decide +kernel, rfl⟩
theorem d0_1 : Dc code 1 (.iconst 3) 1 2 := ⟨by decide +kernel, rfl⟩
theorem d0_2 : Dc code 2 .iand 1 3 := ⟨by decide +kernel, rfl⟩
theorem d0_3 : Dc code 3 (.istore 4) 2 5 := ⟨by decide +kernel, rfl⟩
theorem d0_5 : Dc code 5 (.iload 4) 2 7 := ⟨by decide +kernel, rfl⟩
theorem d0_7 : Dc code 7 (.newarray .int) 2 9 := ⟨by decide +kernel, rfl⟩
set_option maxRecDepth 65536 in
theorem wd0 {Z : State} {a0 : Array Value} (hw : ∀ d ∈ tables_1, d.before a0 Z = true) : (Jvm.Cond.arrayClass Jvm.ClassFile.FieldType.int).before a0 Z = true := hw _ (List.mem_of_getElem? (i := 0) rfl)
theorem d0_9 : Dc code 9 (.astore 5) 2 11 := ⟨by decide +kernel, rfl⟩
theorem d0_11 : Dc code 11 (.iload 4) 2 13 := ⟨by decide +kernel, rfl⟩
theorem d0_13 : Dc code 13 (.newarray .int) 2 15 := ⟨by decide +kernel, rfl⟩
theorem d0_15 : Dc code 15 (.astore 6) 2 17 := ⟨by decide +kernel, rfl⟩
theorem d0_17 : Dc code 17 (.iload 4) 2 19 := ⟨by decide +kernel, rfl⟩
theorem d0_19 : Db code 19 (.ifCond .le 13) 13 22 32 := ⟨by decide +kernel, rfl, by decide, by decide⟩
theorem d0_32 : Dc code 32 (.iload 4) 2 34 := ⟨by decide +kernel, rfl⟩
theorem d0_34 : Dc code 34 (.iconst 1) 1 35 := ⟨by decide +kernel, rfl⟩
theorem d0_35 : Db code 35 (.if_icmp .le 13) 13 38 48 := ⟨by decide +kernel, rfl, by decide, by decide⟩
theorem d0_48 : Dc code 48 (.iload 4) 2 50 := ⟨by decide +kernel, rfl⟩
theorem d0_50 : Dc code 50 (.iconst 2) 1 51 := ⟨by decide +kernel, rfl⟩
theorem d0_51 : Db code 51 (.if_icmp .le 13) 13 54 64 := ⟨by decide +kernel, rfl, by decide, by decide⟩
theorem d0_64 : Dc code 64 (.new 7) 3 67 := ⟨by decide +kernel, rfl⟩
set_option maxRecDepth 65536 in
theorem wd1 {Z : State} {a0 : Array Value} (hw : ∀ d ∈ tables_1, d.before a0 Z = true) : (Jvm.Cond.classLink "com/example/educe/educe/index/PostingListCollectionFrequencyPinLaw" (7 : Nat) "com/example/educe/educe/index/PostingList").before a0 Z = true := hw _ (List.mem_of_getElem? (i := 1) rfl)
set_option maxRecDepth 65536 in
theorem wd3 {Z : State} {a0 : Array Value} (hw : ∀ d ∈ tables_1, d.before a0 Z = true) : (Jvm.Cond.initialized "com/example/educe/educe/index/PostingList").before a0 Z = true := hw _ (List.mem_of_getElem? (i := 3) rfl)
theorem d0_67 : Dc code 67 .dup 1 68 := ⟨by decide +kernel, rfl⟩
theorem d0_68 : Dc code 68 (.aload 5) 2 70 := ⟨by decide +kernel, rfl⟩
theorem d0_70 : Dc code 70 (.aload 6) 2 72 := ⟨by decide +kernel, rfl⟩
theorem d0_72 : Dc code 72 .aconst_null 1 73 := ⟨by decide +kernel, rfl⟩
theorem d0_73 : Dc code 73 (.invokespecial 9) 3 76 := ⟨by decide +kernel, rfl⟩
theorem pd_1 : parseMethodDescriptor "([I[I[I)V" = some ⟨[(.array .int), (.array .int), (.array .int)], none⟩ := by decide +kernel
set_option maxRecDepth 65536 in
theorem wd4 {Z : State} {a0 : Array Value} (hw : ∀ d ∈ tables_1, d.before a0 Z = true) : (Jvm.Cond.methodLink "com/example/educe/educe/index/PostingListCollectionFrequencyPinLaw" (9 : Nat) ({ cls := "com/example/educe/educe/index/PostingList", name := "<init>", desc := "([I[I[I)V" } : Jvm.MethodName)).before a0 Z = true := hw _ (List.mem_of_getElem? (i := 4) rfl)
set_option maxRecDepth 65536 in
theorem wd5 {Z : State} {a0 : Array Value} (hw : ∀ d ∈ tables_1, d.before a0 Z = true) : (Jvm.Cond.instanceMethod ({ cls := "com/example/educe/educe/index/PostingList", name := "<init>", desc := "([I[I[I)V" } : Jvm.MethodName)).before a0 Z = true := hw _ (List.mem_of_getElem? (i := 5) rfl)
set_option maxRecDepth 65536 in
theorem wd6 {Z : State} {a0 : Array Value} (hw : ∀ d ∈ tables_1, d.before a0 Z = true) : (Jvm.Cond.code ({ cls := "com/example/educe/educe/index/PostingList", name := "<init>", desc := "([I[I[I)V" } : Jvm.MethodName) prog_45_method_1_code (5 : Nat) (Option.none : Option Jvm.ClassFile.FieldType)).before a0 Z = true := hw _ (List.mem_of_getElem? (i := 6) rfl)
theorem d0_76 : Dc code 76 (.astore 7) 2 78 := ⟨by decide +kernel, rfl⟩
theorem d0_78 : Dc code 78 (.lconst 0) 1 79 := ⟨by decide +kernel, rfl⟩
theorem d0_79 : Dc code 79 (.lstore 8) 2 81 := ⟨by decide +kernel, rfl⟩
theorem d0_81 : Dc code 81 (.iload 4) 2 83 := ⟨by decide +kernel, rfl⟩
theorem d0_83 : Db code 83 (.ifCond .le 10) 10 86 93 := ⟨by decide +kernel, rfl, by decide, by decide⟩
theorem d0_93 : Dc code 93 (.iload 4) 2 95 := ⟨by decide +kernel, rfl⟩
theorem d0_95 : Dc code 95 (.iconst 1) 1 96 := ⟨by decide +kernel, rfl⟩
theorem d0_96 : Db code 96 (.if_icmp .le 10) 10 99 106 := ⟨by decide +kernel, rfl, by decide, by decide⟩
theorem d0_106 : Dc code 106 (.iload 4) 2 108 := ⟨by decide +kernel, rfl⟩
theorem d0_108 : Dc code 108 (.iconst 2) 1 109 := ⟨by decide +kernel, rfl⟩
theorem d0_109 : Db code 109 (.if_icmp .le 10) 10 112 119 := ⟨by decide +kernel, rfl, by decide, by decide⟩
theorem d0_119 : Dc code 119 (.aload 7) 2 121 := ⟨by decide +kernel, rfl⟩
theorem d0_121 : Dc code 121 (.invokevirtual 12) 3 124 := ⟨by decide +kernel, rfl⟩
theorem pd_2 : parseMethodDescriptor "()J" = some ⟨[], some .long⟩ := by decide +kernel
set_option maxRecDepth 65536 in
theorem wd18 {Z : State} {a0 : Array Value} (hw : ∀ d ∈ tables_1, d.before a0 Z = true) : (Jvm.Cond.methodLink "com/example/educe/educe/index/PostingListCollectionFrequencyPinLaw" (12 : Nat) ({ cls := "com/example/educe/educe/index/PostingList", name := "collectionFrequency", desc := "()J" } : Jvm.MethodName)).before a0 Z = true := hw _ (List.mem_of_getElem? (i := 18) rfl)
set_option maxRecDepth 65536 in
theorem wd19 {Z : State} {a0 : Array Value} (hw : ∀ d ∈ tables_1, d.before a0 Z = true) : (Jvm.Cond.declares ({ cls := "com/example/educe/educe/index/PostingList", name := "collectionFrequency", desc := "()J" } : Jvm.MethodName)).before a0 Z = true := hw _ (List.mem_of_getElem? (i := 19) rfl)
set_option maxRecDepth 65536 in
theorem wd21 {Z : State} {a0 : Array Value} (hw : ∀ d ∈ tables_1, d.before a0 Z = true) : (Jvm.Cond.selects "com/example/educe/educe/index/PostingList" ({ cls := "com/example/educe/educe/index/PostingList", name := "collectionFrequency", desc := "()J" } : Jvm.MethodName) ({ cls := "com/example/educe/educe/index/PostingList", name := "collectionFrequency", desc := "()J" } : Jvm.MethodName)).before a0 Z = true := hw _ (List.mem_of_getElem? (i := 21) rfl)
set_option maxRecDepth 65536 in
theorem wd20 {Z : State} {a0 : Array Value} (hw : ∀ d ∈ tables_1, d.before a0 Z = true) : (Jvm.Cond.instanceMethod ({ cls := "com/example/educe/educe/index/PostingList", name := "collectionFrequency", desc := "()J" } : Jvm.MethodName)).before a0 Z = true := hw _ (List.mem_of_getElem? (i := 20) rfl)
set_option maxRecDepth 65536 in
theorem wd22 {Z : State} {a0 : Array Value} (hw : ∀ d ∈ tables_1, d.before a0 Z = true) : (Jvm.Cond.code ({ cls := "com/example/educe/educe/index/PostingList", name := "collectionFrequency", desc := "()J" } : Jvm.MethodName) prog_45_method_6_code (7 : Nat) (Option.some Jvm.ClassFile.FieldType.long)).before a0 Z = true := hw _ (List.mem_of_getElem? (i := 22) rfl)
theorem d0_124 : Dc code 124 (.lload 8) 2 126 := ⟨by decide +kernel, rfl⟩
theorem d0_126 : Dc code 126 .lcmp 1 127 := ⟨by decide +kernel, rfl⟩
theorem d0_127 : Db code 127 (.ifCond .ne 7) 7 130 134 := ⟨by decide +kernel, rfl, by decide, by decide⟩
theorem d0_130 : Dc code 130 (.iconst 1) 1 131 := ⟨by decide +kernel, rfl⟩
theorem d0_131 : Db code 131 (.goto 4) 4 134 135 := ⟨by decide +kernel, rfl, by decide, by decide⟩
theorem d0_135 : Dc code 135 .ireturn 1 136 := ⟨by decide +kernel, rfl⟩
theorem d0_22 : Dc code 22 (.aload 5) 2 24 := ⟨by decide +kernel, rfl⟩
theorem d0_24 : Dc code 24 (.iconst 0) 1 25 := ⟨by decide +kernel, rfl⟩
theorem d0_25 : Dc code 25 (.iconst 0) 1 26 := ⟨by decide +kernel, rfl⟩
theorem d0_26 : Dc code 26 .iastore 1 27 := ⟨by decide +kernel, rfl⟩
theorem d0_27 : Dc code 27 (.aload 6) 2 29 := ⟨by decide +kernel, rfl⟩
theorem d0_29 : Dc code 29 (.iconst 0) 1 30 := ⟨by decide +kernel, rfl⟩
theorem d0_30 : Dc code 30 (.iload_n 1) 1 31 := ⟨by decide +kernel, rfl⟩
theorem d0_31 : Dc code 31 .iastore 1 32 := ⟨by decide +kernel, rfl⟩
theorem d0_86 : Dc code 86 (.lload 8) 2 88 := ⟨by decide +kernel, rfl⟩
theorem d0_88 : Dc code 88 (.iload_n 1) 1 89 := ⟨by decide +kernel, rfl⟩
theorem d0_89 : Dc code 89 .i2l 1 90 := ⟨by decide +kernel, rfl⟩
theorem d0_90 : Dc code 90 .ladd 1 91 := ⟨by decide +kernel, rfl⟩
theorem d0_91 : Dc code 91 (.lstore 8) 2 93 := ⟨by decide +kernel, rfl⟩
theorem d0_38 : Dc code 38 (.aload 5) 2 40 := ⟨by decide +kernel, rfl⟩
theorem d0_40 : Dc code 40 (.iconst 1) 1 41 := ⟨by decide +kernel, rfl⟩
theorem d0_41 : Dc code 41 (.iconst 1) 1 42 := ⟨by decide +kernel, rfl⟩
theorem d0_42 : Dc code 42 .iastore 1 43 := ⟨by decide +kernel, rfl⟩
theorem d0_43 : Dc code 43 (.aload 6) 2 45 := ⟨by decide +kernel, rfl⟩
theorem d0_45 : Dc code 45 (.iconst 1) 1 46 := ⟨by decide +kernel, rfl⟩
theorem d0_46 : Dc code 46 (.iload_n 2) 1 47 := ⟨by decide +kernel, rfl⟩
theorem d0_47 : Dc code 47 .iastore 1 48 := ⟨by decide +kernel, rfl⟩
theorem d0_99 : Dc code 99 (.lload 8) 2 101 := ⟨by decide +kernel, rfl⟩
theorem d0_101 : Dc code 101 (.iload_n 2) 1 102 := ⟨by decide +kernel, rfl⟩
theorem d0_102 : Dc code 102 .i2l 1 103 := ⟨by decide +kernel, rfl⟩
theorem d0_103 : Dc code 103 .ladd 1 104 := ⟨by decide +kernel, rfl⟩
theorem d0_104 : Dc code 104 (.lstore 8) 2 106 := ⟨by decide +kernel, rfl⟩
theorem d0_54 : Dc code 54 (.aload 5) 2 56 := ⟨by decide +kernel, rfl⟩
theorem d0_56 : Dc code 56 (.iconst 2) 1 57 := ⟨by decide +kernel, rfl⟩
theorem d0_57 : Dc code 57 (.iconst 2) 1 58 := ⟨by decide +kernel, rfl⟩
theorem d0_58 : Dc code 58 .iastore 1 59 := ⟨by decide +kernel, rfl⟩
theorem d0_59 : Dc code 59 (.aload 6) 2 61 := ⟨by decide +kernel, rfl⟩
theorem d0_61 : Dc code 61 (.iconst 2) 1 62 := ⟨by decide +kernel, rfl⟩
theorem d0_62 : Dc code 62 (.iload_n 3) 1 63 := ⟨by decide +kernel, rfl⟩
theorem d0_63 : Dc code 63 .iastore 1 64 := ⟨by decide +kernel, rfl⟩
theorem d0_112 : Dc code 112 (.lload 8) 2 114 := ⟨by decide +kernel, rfl⟩
theorem d0_114 : Dc code 114 (.iload_n 3) 1 115 := ⟨by decide +kernel, rfl⟩
theorem d0_115 : Dc code 115 .i2l 1 116 := ⟨by decide +kernel, rfl⟩
theorem d0_116 : Dc code 116 .ladd 1 117 := ⟨by decide +kernel, rfl⟩
theorem d0_117 : Dc code 117 (.lstore 8) 2 119 := ⟨by decide +kernel, rfl⟩
theorem ef0 (m : MethodId) (x0 : Int32) (x1 : Int32) (x2 : Int32) (x3 : Int32) : entryFrame m #[.int x0, .int x1, .int x2, .int x3] maxLocals = mkF m 0 #[.val (.int x0), .val (.int x1), .val (.int x2), .val (.int x3), .unset, .unset, .unset, .unset, .unset, .unset] [] := by first | (simp [entryFrame, mkF, argsToLocals, Value.category, maxLocals]; done) | rfl
theorem pn0 : plainFor (x : MethodName) = true := plainFor_of_name (by show plainName "com/example/educe/educe/index/PostingListCollectionFrequencyPinLaw" = true; first | (simp [plainName, overriddenIn]; done) | decide +kernel)
theorem own_n (p : Int32) : p &&& (3 : Int32) = 0 ∨ p &&& (3 : Int32) = 1 ∨ p &&& (3 : Int32) = 2 ∨ p &&& (3 : Int32) = 3 := by
  have q := c_mask p 3 2 (by decide) (by decide)
  have e0 : (0 : Int32).toInt = 0 := rfl
  have e1 : (1 : Int32).toInt = 1 := rfl
  have e2 : (2 : Int32).toInt = 2 := rfl
  have e3 : (3 : Int32).toInt = 3 := rfl
  simp only [← Int32.toInt_inj, e0, e1, e2, e3]
  omega

set_option maxRecDepth 65536 in
set_option maxHeartbeats 40000000 in
theorem rmI (l : Launch) (Z : State) (a0 : Array Value) (hw : ∀ d ∈ tables_1, d.before a0 Z = true) (a b c : Addr) (h : Heap) (n0 : Nat) (P0 : Exa Z h a "com/example/educe/educe/index/PostingList") (P1 : Fld Z h a "com/example/educe/educe/index/PostingList" "documents" "[I" .null) (P2 : Fld Z h a "com/example/educe/educe/index/PostingList" "frequencies" "[I" .null) (P3 : Fld Z h a "com/example/educe/educe/index/PostingList" "positions" "[I" .null) (P4 : Fld Z h a "com/example/educe/educe/index/PostingList" "firstPositions" "[I" .null) (P5 : n0 ≤ a) : Con l Z ⟨"com/example/educe/educe/index/PostingList", "<init>", "([I[I[I)V"⟩ prog_45_method_1_code 5 none ({ frames := 1, cells := 0, slots := 0, locals := 12 } : Room) #[.ref a, .ref b, .ref c, .null] h n0 (fun v h' => v = none ∧ (Keep h h' [a] ∧ Exa Z h' a "com/example/educe/educe/index/PostingList" ∧ Fld Z h' a "com/example/educe/educe/index/PostingList" "frequencies" "[I" (.ref c))) := by
  refine Con.of pnI (fun m => efI m a b c) (fun E K => ?_)
  have K1 : Keep h h [a] := Keep.refl _ _
  refine K.aloadN dI_0 rfl rfl ?_
  refine K.initO 0 dI_1 (wd7 hw) (wd8 hw) (wd9 hw) rfl (by decide) (Nat.le_of_eq rfl) (by decide) ?_
  refine K.aloadN dI_4 rfl rfl ?_
  refine K.aloadN dI_5 rfl rfl ?_
  refine K.putF dI_6 (wd10 hw) P1 P0 (Or.inr ⟨(wd11 hw), rfl, rfl⟩) (wd2 hw) (ty := (.array .int)) (by decide) rfl rfl P5 (fun h2 W3 => ?_)
  have K4 := K1.wr W3 (Or.inl (List.mem_of_getElem? (i := 0) rfl))
  have E5 := P0.wr W3
  have F6 := P1.same W3
  have F7 := P2.other W3 (Or.inr (RoadKit.slot_ne (Or.inr (wd13 hw)) (Or.inr (wd11 hw)) (by decide) (t := (.array .int)) (t' := (.array .int)) (by decide) (by decide)))
  have F8 := P3.other W3 (Or.inr (RoadKit.slot_ne (Or.inr (wd15 hw)) (Or.inr (wd11 hw)) (by decide) (t := (.array .int)) (t' := (.array .int)) (by decide) (by decide)))
  have F9 := P4.other W3 (Or.inr (RoadKit.slot_ne (Or.inr (wd17 hw)) (Or.inr (wd11 hw)) (by decide) (t := (.array .int)) (t' := (.array .int)) (by decide) (by decide)))
  refine K.aloadN dI_9 rfl rfl ?_
  refine K.aloadN dI_10 rfl rfl ?_
  refine K.putF dI_11 (wd12 hw) F7 E5 (Or.inr ⟨(wd13 hw), rfl, rfl⟩) (wd2 hw) (ty := (.array .int)) (by decide) rfl rfl P5 (fun h10 W11 => ?_)
  have K12 := K4.wr W11 (Or.inl (List.mem_of_getElem? (i := 0) rfl))
  have E13 := E5.wr W11
  have F14 := F6.other W11 (Or.inr (RoadKit.slot_ne (Or.inr (wd11 hw)) (Or.inr (wd13 hw)) (by decide) (t := (.array .int)) (t' := (.array .int)) (by decide) (by decide)))
  have F15 := F7.same W11
  have F16 := F8.other W11 (Or.inr (RoadKit.slot_ne (Or.inr (wd15 hw)) (Or.inr (wd13 hw)) (by decide) (t := (.array .int)) (t' := (.array .int)) (by decide) (by decide)))
  have F17 := F9.other W11 (Or.inr (RoadKit.slot_ne (Or.inr (wd17 hw)) (Or.inr (wd13 hw)) (by decide) (t := (.array .int)) (t' := (.array .int)) (by decide) (by decide)))
  refine K.aloadN dI_14 rfl rfl ?_
  refine K.aloadN dI_15 rfl rfl ?_
  refine K.putF dI_16 (wd14 hw) F16 E13 (Or.inr ⟨(wd15 hw), rfl, rfl⟩) (wd2 hw) (ty := (.array .int)) (by decide) rfl rfl P5 (fun h18 W19 => ?_)
  have K20 := K12.wr W19 (Or.inl (List.mem_of_getElem? (i := 0) rfl))
  have E21 := E13.wr W19
  have F22 := F14.other W19 (Or.inr (RoadKit.slot_ne (Or.inr (wd11 hw)) (Or.inr (wd15 hw)) (by decide) (t := (.array .int)) (t' := (.array .int)) (by decide) (by decide)))
  have F23 := F15.other W19 (Or.inr (RoadKit.slot_ne (Or.inr (wd13 hw)) (Or.inr (wd15 hw)) (by decide) (t := (.array .int)) (t' := (.array .int)) (by decide) (by decide)))
  have F24 := F16.same W19
  have F25 := F17.other W19 (Or.inr (RoadKit.slot_ne (Or.inr (wd17 hw)) (Or.inr (wd15 hw)) (by decide) (t := (.array .int)) (t' := (.array .int)) (by decide) (by decide)))
  refine K.aloadN dI_19 rfl rfl ?_
  refine K.ifnonnull_null dI_20 ?_
  refine K.aloadN dI_23 rfl rfl ?_
  refine K.aconst_null dI_24 ?_
  refine K.putF dI_25 (wd16 hw) F25 E21 (Or.inr ⟨(wd17 hw), rfl, rfl⟩) (wd2 hw) (ty := (.array .int)) (by decide) rfl rfl P5 (fun h26 W27 => ?_)
  have K28 := K20.wr W27 (Or.inl (List.mem_of_getElem? (i := 0) rfl))
  have E29 := E21.wr W27
  have F30 := F22.other W27 (Or.inr (RoadKit.slot_ne (Or.inr (wd11 hw)) (Or.inr (wd17 hw)) (by decide) (t := (.array .int)) (t' := (.array .int)) (by decide) (by decide)))
  have F31 := F23.other W27 (Or.inr (RoadKit.slot_ne (Or.inr (wd13 hw)) (Or.inr (wd17 hw)) (by decide) (t := (.array .int)) (t' := (.array .int)) (by decide) (by decide)))
  have F32 := F24.other W27 (Or.inr (RoadKit.slot_ne (Or.inr (wd15 hw)) (Or.inr (wd17 hw)) (by decide) (t := (.array .int)) (t' := (.array .int)) (by decide) (by decide)))
  have F33 := F25.same W27
  exact K.ret dI_28 (by decide) (by decide) ⟨rfl, K28, E29, F31⟩
set_option maxRecDepth 65536 in
set_option maxHeartbeats 40000000 in
theorem rmF0 (l : Launch) (Z : State) (a0 : Array Value) (hw : ∀ d ∈ tables_1, d.before a0 Z = true) (a t : Addr) (f : Int32 → Value) (h : Heap) (n0 : Nat) (P0 : Fld Z h a "com/example/educe/educe/index/PostingList" "frequencies" "[I" (.ref t)) (P1 : Ia Z h t .int (0 : Int32) f) : Con l Z ⟨"com/example/educe/educe/index/PostingList", "collectionFrequency", "()J"⟩ prog_45_method_6_code 7 (some .long) ({ frames := 0, cells := 0, slots := 0, locals := 0 } : Room) #[.ref a] h n0 (fun v h' => v = some (.long (0 : Int64)) ∧ h' = h) := by
  refine Con.of pnF0 (fun m => efF0 m a) (fun E K => ?_)
  refine K.lconst (0 : Int64) dF0_0 rfl ?_
  refine K.lstoreN #[.val (.ref a), .val (.long (0 : Int64)), .second, .unset, .unset, .unset, .unset] dF0_1 rfl ?_
  refine K.aloadN dF0_2 rfl rfl ?_
  refine K.getF dF0_3 (wd12 hw) P0 ?_
  refine K.astoreN #[.val (.ref a), .val (.long (0 : Int64)), .second, .val (.ref t), .unset, .unset, .unset] dF0_6 rfl rfl ?_
  refine K.aloadN dF0_7 rfl rfl ?_
  refine K.arraylength dF0_8 P1 ?_
  refine K.istore #[.val (.ref a), .val (.long (0 : Int64)), .second, .val (.ref t), .val (.int (0 : Int32)), .unset, .unset] dF0_9 rfl ?_
  refine K.iconst (0 : Int32) dF0_11 rfl ?_
  refine K.istore #[.val (.ref a), .val (.long (0 : Int64)), .second, .val (.ref t), .val (.int (0 : Int32)), .val (.int (0 : Int32)), .unset] dF0_12 rfl ?_
  refine K.iload dF0_14 rfl ?_
  refine K.iload dF0_16 rfl ?_
  refine K.ic_ge dF0_18 (fun u => absurd u (by decide)) (fun _ => ?_)
  refine K.lloadN dF0_39 rfl ?_
  exact K.lreturn dF0_40 (by decide) (by decide) ⟨rfl, rfl⟩
set_option maxRecDepth 65536 in
set_option maxHeartbeats 40000000 in
theorem rmF1 (l : Launch) (Z : State) (a0 : Array Value) (hw : ∀ d ∈ tables_1, d.before a0 Z = true) (a t : Addr) (f : Int32 → Value)(x0 : Int32) (h : Heap) (n0 : Nat) (P0 : Fld Z h a "com/example/educe/educe/index/PostingList" "frequencies" "[I" (.ref t)) (P1 : Ia Z h t .int (1 : Int32) f) (P2 : f 0 = .int x0) : Con l Z ⟨"com/example/educe/educe/index/PostingList", "collectionFrequency", "()J"⟩ prog_45_method_6_code 7 (some .long) ({ frames := 0, cells := 0, slots := 0, locals := 0 } : Room) #[.ref a] h n0 (fun v h' => v = some (.long ((0 : Int64) + x0.toInt64)) ∧ h' = h) := by
  refine Con.of pnF1 (fun m => efF1 m a) (fun E K => ?_)
  refine K.lconst (0 : Int64) dF1_0 rfl ?_
  refine K.lstoreN #[.val (.ref a), .val (.long (0 : Int64)), .second, .unset, .unset, .unset, .unset] dF1_1 rfl ?_
  refine K.aloadN dF1_2 rfl rfl ?_
  refine K.getF dF1_3 (wd12 hw) P0 ?_
  refine K.astoreN #[.val (.ref a), .val (.long (0 : Int64)), .second, .val (.ref t), .unset, .unset, .unset] dF1_6 rfl rfl ?_
  refine K.aloadN dF1_7 rfl rfl ?_
  refine K.arraylength dF1_8 P1 ?_
  refine K.istore #[.val (.ref a), .val (.long (0 : Int64)), .second, .val (.ref t), .val (.int (1 : Int32)), .unset, .unset] dF1_9 rfl ?_
  refine K.iconst (0 : Int32) dF1_11 rfl ?_
  refine K.istore #[.val (.ref a), .val (.long (0 : Int64)), .second, .val (.ref t), .val (.int (1 : Int32)), .val (.int (0 : Int32)), .unset] dF1_12 rfl ?_
  refine K.iload dF1_14 rfl ?_
  refine K.iload dF1_16 rfl ?_
  refine K.ic_ge dF1_18 (fun _ => ?_) (fun u => absurd (by decide) u)
  refine K.aloadN dF1_21 rfl rfl ?_
  refine K.iload dF1_22 rfl ?_
  refine K.iaload (v := .int x0) dF1_24 P1 (by decide) (by decide) P2 ?_
  refine K.istore #[.val (.ref a), .val (.long (0 : Int64)), .second, .val (.ref t), .val (.int (1 : Int32)), .val (.int (0 : Int32)), .val (.int x0)] dF1_25 rfl ?_
  refine K.lloadN dF1_27 rfl ?_
  refine K.iload dF1_28 rfl ?_
  refine K.i2l dF1_30 ?_
  refine K.ladd dF1_31 ?_
  refine K.lstoreN #[.val (.ref a), .val (.long ((0 : Int64) + x0.toInt64)), .second, .val (.ref t), .val (.int (1 : Int32)), .val (.int (0 : Int32)), .val (.int x0)] dF1_32 rfl ?_
  refine K.iinc ((0 : Int32) + 1) #[.val (.ref a), .val (.long ((0 : Int64) + x0.toInt64)), .second, .val (.ref t), .val (.int (1 : Int32)), .val (.int ((0 : Int32) + 1)), .val (.int x0)] dF1_33 rfl rfl rfl ?_
  show Wk E h 0 0 36 #[.val (.ref a), .val (.long ((0 : Int64) + x0.toInt64)), .second, .val (.ref t), .val (.int (1 : Int32)), .val (.int (1 : Int32)), .val (.int x0)] []
  refine K.goto dF1_36 ?_
  refine K.iload dF1_14 rfl ?_
  refine K.iload dF1_16 rfl ?_
  refine K.ic_ge dF1_18 (fun u => absurd u (by decide)) (fun _ => ?_)
  refine K.lloadN dF1_39 rfl ?_
  exact K.lreturn dF1_40 (by decide) (by decide) ⟨rfl, rfl⟩
set_option maxRecDepth 65536 in
set_option maxHeartbeats 40000000 in
theorem rmF2 (l : Launch) (Z : State) (a0 : Array Value) (hw : ∀ d ∈ tables_1, d.before a0 Z = true) (a t : Addr) (f : Int32 → Value)(x0 x1 : Int32) (h : Heap) (n0 : Nat) (P0 : Fld Z h a "com/example/educe/educe/index/PostingList" "frequencies" "[I" (.ref t)) (P1 : Ia Z h t .int (2 : Int32) f) (P2 : f 0 = .int x0) (P3 : f 1 = .int x1) : Con l Z ⟨"com/example/educe/educe/index/PostingList", "collectionFrequency", "()J"⟩ prog_45_method_6_code 7 (some .long) ({ frames := 0, cells := 0, slots := 0, locals := 0 } : Room) #[.ref a] h n0 (fun v h' => v = some (.long (((0 : Int64) + x0.toInt64) + x1.toInt64)) ∧ h' = h) := by
  refine Con.of pnF2 (fun m => efF2 m a) (fun E K => ?_)
  refine K.lconst (0 : Int64) dF2_0 rfl ?_
  refine K.lstoreN #[.val (.ref a), .val (.long (0 : Int64)), .second, .unset, .unset, .unset, .unset] dF2_1 rfl ?_
  refine K.aloadN dF2_2 rfl rfl ?_
  refine K.getF dF2_3 (wd12 hw) P0 ?_
  refine K.astoreN #[.val (.ref a), .val (.long (0 : Int64)), .second, .val (.ref t), .unset, .unset, .unset] dF2_6 rfl rfl ?_
  refine K.aloadN dF2_7 rfl rfl ?_
  refine K.arraylength dF2_8 P1 ?_
  refine K.istore #[.val (.ref a), .val (.long (0 : Int64)), .second, .val (.ref t), .val (.int (2 : Int32)), .unset, .unset] dF2_9 rfl ?_
  refine K.iconst (0 : Int32) dF2_11 rfl ?_
  refine K.istore #[.val (.ref a), .val (.long (0 : Int64)), .second, .val (.ref t), .val (.int (2 : Int32)), .val (.int (0 : Int32)), .unset] dF2_12 rfl ?_
  refine K.iload dF2_14 rfl ?_
  refine K.iload dF2_16 rfl ?_
  refine K.ic_ge dF2_18 (fun _ => ?_) (fun u => absurd (by decide) u)
  refine K.aloadN dF2_21 rfl rfl ?_
  refine K.iload dF2_22 rfl ?_
  refine K.iaload (v := .int x0) dF2_24 P1 (by decide) (by decide) P2 ?_
  refine K.istore #[.val (.ref a), .val (.long (0 : Int64)), .second, .val (.ref t), .val (.int (2 : Int32)), .val (.int (0 : Int32)), .val (.int x0)] dF2_25 rfl ?_
  refine K.lloadN dF2_27 rfl ?_
  refine K.iload dF2_28 rfl ?_
  refine K.i2l dF2_30 ?_
  refine K.ladd dF2_31 ?_
  refine K.lstoreN #[.val (.ref a), .val (.long ((0 : Int64) + x0.toInt64)), .second, .val (.ref t), .val (.int (2 : Int32)), .val (.int (0 : Int32)), .val (.int x0)] dF2_32 rfl ?_
  refine K.iinc ((0 : Int32) + 1) #[.val (.ref a), .val (.long ((0 : Int64) + x0.toInt64)), .second, .val (.ref t), .val (.int (2 : Int32)), .val (.int ((0 : Int32) + 1)), .val (.int x0)] dF2_33 rfl rfl rfl ?_
  show Wk E h 0 0 36 #[.val (.ref a), .val (.long ((0 : Int64) + x0.toInt64)), .second, .val (.ref t), .val (.int (2 : Int32)), .val (.int (1 : Int32)), .val (.int x0)] []
  refine K.goto dF2_36 ?_
  refine K.iload dF2_14 rfl ?_
  refine K.iload dF2_16 rfl ?_
  refine K.ic_ge dF2_18 (fun _ => ?_) (fun u => absurd (by decide) u)
  refine K.aloadN dF2_21 rfl rfl ?_
  refine K.iload dF2_22 rfl ?_
  refine K.iaload (v := .int x1) dF2_24 P1 (by decide) (by decide) P3 ?_
  refine K.istore #[.val (.ref a), .val (.long ((0 : Int64) + x0.toInt64)), .second, .val (.ref t), .val (.int (2 : Int32)), .val (.int (1 : Int32)), .val (.int x1)] dF2_25 rfl ?_
  refine K.lloadN dF2_27 rfl ?_
  refine K.iload dF2_28 rfl ?_
  refine K.i2l dF2_30 ?_
  refine K.ladd dF2_31 ?_
  refine K.lstoreN #[.val (.ref a), .val (.long (((0 : Int64) + x0.toInt64) + x1.toInt64)), .second, .val (.ref t), .val (.int (2 : Int32)), .val (.int (1 : Int32)), .val (.int x1)] dF2_32 rfl ?_
  refine K.iinc ((1 : Int32) + 1) #[.val (.ref a), .val (.long (((0 : Int64) + x0.toInt64) + x1.toInt64)), .second, .val (.ref t), .val (.int (2 : Int32)), .val (.int ((1 : Int32) + 1)), .val (.int x1)] dF2_33 rfl rfl rfl ?_
  show Wk E h 0 0 36 #[.val (.ref a), .val (.long (((0 : Int64) + x0.toInt64) + x1.toInt64)), .second, .val (.ref t), .val (.int (2 : Int32)), .val (.int (2 : Int32)), .val (.int x1)] []
  refine K.goto dF2_36 ?_
  refine K.iload dF2_14 rfl ?_
  refine K.iload dF2_16 rfl ?_
  refine K.ic_ge dF2_18 (fun u => absurd u (by decide)) (fun _ => ?_)
  refine K.lloadN dF2_39 rfl ?_
  exact K.lreturn dF2_40 (by decide) (by decide) ⟨rfl, rfl⟩
set_option maxRecDepth 65536 in
set_option maxHeartbeats 40000000 in
theorem rmF3 (l : Launch) (Z : State) (a0 : Array Value) (hw : ∀ d ∈ tables_1, d.before a0 Z = true) (a t : Addr) (f : Int32 → Value)(x0 x1 x2 : Int32) (h : Heap) (n0 : Nat) (P0 : Fld Z h a "com/example/educe/educe/index/PostingList" "frequencies" "[I" (.ref t)) (P1 : Ia Z h t .int (3 : Int32) f) (P2 : f 0 = .int x0) (P3 : f 1 = .int x1) (P4 : f 2 = .int x2) : Con l Z ⟨"com/example/educe/educe/index/PostingList", "collectionFrequency", "()J"⟩ prog_45_method_6_code 7 (some .long) ({ frames := 0, cells := 0, slots := 0, locals := 0 } : Room) #[.ref a] h n0 (fun v h' => v = some (.long ((((0 : Int64) + x0.toInt64) + x1.toInt64) + x2.toInt64)) ∧ h' = h) := by
  refine Con.of pnF3 (fun m => efF3 m a) (fun E K => ?_)
  refine K.lconst (0 : Int64) dF3_0 rfl ?_
  refine K.lstoreN #[.val (.ref a), .val (.long (0 : Int64)), .second, .unset, .unset, .unset, .unset] dF3_1 rfl ?_
  refine K.aloadN dF3_2 rfl rfl ?_
  refine K.getF dF3_3 (wd12 hw) P0 ?_
  refine K.astoreN #[.val (.ref a), .val (.long (0 : Int64)), .second, .val (.ref t), .unset, .unset, .unset] dF3_6 rfl rfl ?_
  refine K.aloadN dF3_7 rfl rfl ?_
  refine K.arraylength dF3_8 P1 ?_
  refine K.istore #[.val (.ref a), .val (.long (0 : Int64)), .second, .val (.ref t), .val (.int (3 : Int32)), .unset, .unset] dF3_9 rfl ?_
  refine K.iconst (0 : Int32) dF3_11 rfl ?_
  refine K.istore #[.val (.ref a), .val (.long (0 : Int64)), .second, .val (.ref t), .val (.int (3 : Int32)), .val (.int (0 : Int32)), .unset] dF3_12 rfl ?_
  refine K.iload dF3_14 rfl ?_
  refine K.iload dF3_16 rfl ?_
  refine K.ic_ge dF3_18 (fun _ => ?_) (fun u => absurd (by decide) u)
  refine K.aloadN dF3_21 rfl rfl ?_
  refine K.iload dF3_22 rfl ?_
  refine K.iaload (v := .int x0) dF3_24 P1 (by decide) (by decide) P2 ?_
  refine K.istore #[.val (.ref a), .val (.long (0 : Int64)), .second, .val (.ref t), .val (.int (3 : Int32)), .val (.int (0 : Int32)), .val (.int x0)] dF3_25 rfl ?_
  refine K.lloadN dF3_27 rfl ?_
  refine K.iload dF3_28 rfl ?_
  refine K.i2l dF3_30 ?_
  refine K.ladd dF3_31 ?_
  refine K.lstoreN #[.val (.ref a), .val (.long ((0 : Int64) + x0.toInt64)), .second, .val (.ref t), .val (.int (3 : Int32)), .val (.int (0 : Int32)), .val (.int x0)] dF3_32 rfl ?_
  refine K.iinc ((0 : Int32) + 1) #[.val (.ref a), .val (.long ((0 : Int64) + x0.toInt64)), .second, .val (.ref t), .val (.int (3 : Int32)), .val (.int ((0 : Int32) + 1)), .val (.int x0)] dF3_33 rfl rfl rfl ?_
  show Wk E h 0 0 36 #[.val (.ref a), .val (.long ((0 : Int64) + x0.toInt64)), .second, .val (.ref t), .val (.int (3 : Int32)), .val (.int (1 : Int32)), .val (.int x0)] []
  refine K.goto dF3_36 ?_
  refine K.iload dF3_14 rfl ?_
  refine K.iload dF3_16 rfl ?_
  refine K.ic_ge dF3_18 (fun _ => ?_) (fun u => absurd (by decide) u)
  refine K.aloadN dF3_21 rfl rfl ?_
  refine K.iload dF3_22 rfl ?_
  refine K.iaload (v := .int x1) dF3_24 P1 (by decide) (by decide) P3 ?_
  refine K.istore #[.val (.ref a), .val (.long ((0 : Int64) + x0.toInt64)), .second, .val (.ref t), .val (.int (3 : Int32)), .val (.int (1 : Int32)), .val (.int x1)] dF3_25 rfl ?_
  refine K.lloadN dF3_27 rfl ?_
  refine K.iload dF3_28 rfl ?_
  refine K.i2l dF3_30 ?_
  refine K.ladd dF3_31 ?_
  refine K.lstoreN #[.val (.ref a), .val (.long (((0 : Int64) + x0.toInt64) + x1.toInt64)), .second, .val (.ref t), .val (.int (3 : Int32)), .val (.int (1 : Int32)), .val (.int x1)] dF3_32 rfl ?_
  refine K.iinc ((1 : Int32) + 1) #[.val (.ref a), .val (.long (((0 : Int64) + x0.toInt64) + x1.toInt64)), .second, .val (.ref t), .val (.int (3 : Int32)), .val (.int ((1 : Int32) + 1)), .val (.int x1)] dF3_33 rfl rfl rfl ?_
  show Wk E h 0 0 36 #[.val (.ref a), .val (.long (((0 : Int64) + x0.toInt64) + x1.toInt64)), .second, .val (.ref t), .val (.int (3 : Int32)), .val (.int (2 : Int32)), .val (.int x1)] []
  refine K.goto dF3_36 ?_
  refine K.iload dF3_14 rfl ?_
  refine K.iload dF3_16 rfl ?_
  refine K.ic_ge dF3_18 (fun _ => ?_) (fun u => absurd (by decide) u)
  refine K.aloadN dF3_21 rfl rfl ?_
  refine K.iload dF3_22 rfl ?_
  refine K.iaload (v := .int x2) dF3_24 P1 (by decide) (by decide) P4 ?_
  refine K.istore #[.val (.ref a), .val (.long (((0 : Int64) + x0.toInt64) + x1.toInt64)), .second, .val (.ref t), .val (.int (3 : Int32)), .val (.int (2 : Int32)), .val (.int x2)] dF3_25 rfl ?_
  refine K.lloadN dF3_27 rfl ?_
  refine K.iload dF3_28 rfl ?_
  refine K.i2l dF3_30 ?_
  refine K.ladd dF3_31 ?_
  refine K.lstoreN #[.val (.ref a), .val (.long ((((0 : Int64) + x0.toInt64) + x1.toInt64) + x2.toInt64)), .second, .val (.ref t), .val (.int (3 : Int32)), .val (.int (2 : Int32)), .val (.int x2)] dF3_32 rfl ?_
  refine K.iinc ((2 : Int32) + 1) #[.val (.ref a), .val (.long ((((0 : Int64) + x0.toInt64) + x1.toInt64) + x2.toInt64)), .second, .val (.ref t), .val (.int (3 : Int32)), .val (.int ((2 : Int32) + 1)), .val (.int x2)] dF3_33 rfl rfl rfl ?_
  show Wk E h 0 0 36 #[.val (.ref a), .val (.long ((((0 : Int64) + x0.toInt64) + x1.toInt64) + x2.toInt64)), .second, .val (.ref t), .val (.int (3 : Int32)), .val (.int (3 : Int32)), .val (.int x2)] []
  refine K.goto dF3_36 ?_
  refine K.iload dF3_14 rfl ?_
  refine K.iload dF3_16 rfl ?_
  refine K.ic_ge dF3_18 (fun u => absurd u (by decide)) (fun _ => ?_)
  refine K.lloadN dF3_39 rfl ?_
  exact K.lreturn dF3_40 (by decide) (by decide) ⟨rfl, rfl⟩
set_option maxRecDepth 65536 in
set_option maxHeartbeats 40000000 in
theorem rm0 (l : Launch) (Z : State) (a0 : Array Value) (hw : ∀ d ∈ tables_1, d.before a0 Z = true) (p q r t : Int32) (h : Heap) (n0 : Nat)  : Con l Z x code maxLocals ret room_1 #[.int p, .int q, .int r, .int t] h n0 (fun v h' => v = some (.int 1)) := by
  refine Con.of pn0 (fun m => ef0 m p q r t) (fun E K => ?_)
  refine K.iloadN d0_0 rfl ?_
  refine K.iconst (3 : Int32) d0_1 rfl ?_
  refine K.iand d0_2 ?_
  rcases own_n p with hn | hn | hn | hn
  · rw [hn]
    refine K.istore #[.val (.int p), .val (.int q), .val (.int r), .val (.int t), .val (.int (0 : Int32)), .unset, .unset, .unset, .unset, .unset] d0_3 rfl ?_
    refine K.iload d0_5 rfl ?_
    refine K.newP (ty := .int) (dv := .int 0) 0 1 0 d0_7 (wd0 hw) rfl rfl (by decide) (by decide) (by decide) rfl rfl (by decide) (by decide) (fun h2 a1 ha3 g4 X5 A6 => ?_)
    refine K.astore #[.val (.int p), .val (.int q), .val (.int r), .val (.int t), .val (.int (0 : Int32)), .val (.ref a1), .unset, .unset, .unset, .unset] d0_9 rfl rfl ?_
    refine K.iload d0_11 rfl ?_
    refine K.newP (ty := .int) (dv := .int 0) 0 2 0 d0_13 (wd0 hw) rfl rfl (by decide) (by decide) (by decide) rfl rfl (by decide) (by decide) (fun h8 a7 ha9 g10 X11 A12 => ?_)
    have lt_a1_a7 : a1 < a7 := by rw [ha9]; exact A6.lt
    have I13 := A6.ext X11
    refine K.astore #[.val (.int p), .val (.int q), .val (.int r), .val (.int t), .val (.int (0 : Int32)), .val (.ref a1), .val (.ref a7), .unset, .unset, .unset] d0_15 rfl rfl ?_
    refine K.iload d0_17 rfl ?_
    refine K.if_le d0_19 (fun u => absurd u (by decide)) (fun _ => ?_)
    refine K.iload d0_32 rfl ?_
    refine K.iconst (1 : Int32) d0_34 rfl ?_
    refine K.ic_le d0_35 (fun u => absurd u (by decide)) (fun _ => ?_)
    refine K.iload d0_48 rfl ?_
    refine K.iconst (2 : Int32) d0_50 rfl ?_
    refine K.ic_le d0_51 (fun u => absurd u (by decide)) (fun _ => ?_)
    refine K.newO 3 4 d0_64 (wd1 hw) (wd2 hw) (wd3 hw) rfl rfl (by decide) (by decide) (fun h15 a14 ha16 g17 X18 A19 D20 => ?_)
    have lt_a1_a14 : a1 < a14 := by rw [ha16]; exact I13.lt
    have lt_a7_a14 : a7 < a14 := by rw [ha16]; exact A12.lt
    have I21 := I13.ext X18
    have I22 := A12.ext X18
    have F23 : Fld Z h15 a14 "com/example/educe/educe/index/PostingList" "documents" "[I" .null := D20 (Or.inr (wd11 hw)) (ty := (.array .int)) (by decide)
    have F24 : Fld Z h15 a14 "com/example/educe/educe/index/PostingList" "frequencies" "[I" .null := D20 (Or.inr (wd13 hw)) (ty := (.array .int)) (by decide)
    have F25 : Fld Z h15 a14 "com/example/educe/educe/index/PostingList" "positions" "[I" .null := D20 (Or.inr (wd15 hw)) (ty := (.array .int)) (by decide)
    have F26 : Fld Z h15 a14 "com/example/educe/educe/index/PostingList" "firstPositions" "[I" .null := D20 (Or.inr (wd17 hw)) (ty := (.array .int)) (by decide)
    refine K.dup d0_67 rfl ?_
    refine K.aload d0_68 rfl rfl ?_
    refine K.aload d0_70 rfl rfl ?_
    refine K.aconst_null d0_72 ?_
    refine K.callI (a := a14) [.ref a1, .ref a7, .null] [.ref a14] 1 3 4 d0_73 rfl rfl (wd4 hw) (wd5 hw) (wd3 hw) (wd6 hw) (by decide) (rmI l Z a0 hw a14 a1 a7 h15 n0 A19 F23 F24 F25 F26 g17) rfl (lenOf pd_1 rfl) rfl (Nat.le_of_eq rfl) (by decide) (by decide) rfl rfl (by decide) (by decide) (goU fun h27 q28 => ?_)
    obtain ⟨K29, E30, F31⟩ := q28
    have I32 := I21.keep K29 (ninS (Nat.ne_of_lt lt_a1_a14) nin0)
    have I33 := I22.keep K29 (ninS (Nat.ne_of_lt lt_a7_a14) nin0)
    have E34 := A19.keep K29
    refine K.astore #[.val (.int p), .val (.int q), .val (.int r), .val (.int t), .val (.int (0 : Int32)), .val (.ref a1), .val (.ref a7), .val (.ref a14), .unset, .unset] d0_76 rfl rfl ?_
    refine K.lconst (0 : Int64) d0_78 rfl ?_
    refine K.lstore #[.val (.int p), .val (.int q), .val (.int r), .val (.int t), .val (.int (0 : Int32)), .val (.ref a1), .val (.ref a7), .val (.ref a14), .val (.long (0 : Int64)), .second] d0_79 rfl ?_
    refine K.iload d0_81 rfl ?_
    refine K.if_le d0_83 (fun u => absurd u (by decide)) (fun _ => ?_)
    refine K.iload d0_93 rfl ?_
    refine K.iconst (1 : Int32) d0_95 rfl ?_
    refine K.ic_le d0_96 (fun u => absurd u (by decide)) (fun _ => ?_)
    refine K.iload d0_106 rfl ?_
    refine K.iconst (2 : Int32) d0_108 rfl ?_
    refine K.ic_le d0_109 (fun u => absurd u (by decide)) (fun _ => ?_)
    refine K.aload d0_119 rfl rfl ?_
    refine K.callV (a := a14) [] [] 0 3 4 d0_121 (wd18 hw) (wd19 hw) (wd21 hw) (wd20 hw) (wd3 hw) (wd22 hw) (by decide) (rmF0 l Z a0 hw a14 a7 (fun _ => .int 0)  h27 n0 F31 I33 ) E30 rfl (lenOf pd_2 rfl) rfl (Nat.le_of_eq rfl) (by decide) (by decide) rfl rfl (by decide) (by decide) (goP ?_)
    refine K.lload d0_124 rfl ?_
    refine K.lc_ne d0_126 d0_127 (fun _ => ?_) (fun u => absurd rfl u)
    refine K.iconst (1 : Int32) d0_130 rfl ?_
    refine K.goto d0_131 ?_
    exact K.ireturn d0_135 (Or.inr (Or.inl rfl)) rfl (by decide) (by decide) rfl
  · rw [hn]
    refine K.istore #[.val (.int p), .val (.int q), .val (.int r), .val (.int t), .val (.int (1 : Int32)), .unset, .unset, .unset, .unset, .unset] d0_3 rfl ?_
    refine K.iload d0_5 rfl ?_
    refine K.newP (ty := .int) (dv := .int 0) 1 1 1 d0_7 (wd0 hw) rfl rfl (by decide) (by decide) (by decide) rfl rfl (by decide) (by decide) (fun h36 a35 ha37 g38 X39 A40 => ?_)
    refine K.astore #[.val (.int p), .val (.int q), .val (.int r), .val (.int t), .val (.int (1 : Int32)), .val (.ref a35), .unset, .unset, .unset, .unset] d0_9 rfl rfl ?_
    refine K.iload d0_11 rfl ?_
    refine K.newP (ty := .int) (dv := .int 0) 1 2 2 d0_13 (wd0 hw) rfl rfl (by decide) (by decide) (by decide) rfl rfl (by decide) (by decide) (fun h42 a41 ha43 g44 X45 A46 => ?_)
    have lt_a35_a41 : a35 < a41 := by rw [ha43]; exact A40.lt
    have I47 := A40.ext X45
    refine K.astore #[.val (.int p), .val (.int q), .val (.int r), .val (.int t), .val (.int (1 : Int32)), .val (.ref a35), .val (.ref a41), .unset, .unset, .unset] d0_15 rfl rfl ?_
    refine K.iload d0_17 rfl ?_
    refine K.if_le d0_19 (fun _ => ?_) (fun u => absurd (by decide) u)
    refine K.aload d0_22 rfl rfl ?_
    refine K.iconst (0 : Int32) d0_24 rfl ?_
    refine K.iconst (0 : Int32) d0_25 rfl ?_
    refine K.iastore d0_26 I47 (by decide) (by decide) g38 (fun h48 W49 A50 => ?_)
    have I51 := A46.other W49 (Nat.ne_of_gt lt_a35_a41)
    refine K.aload d0_27 rfl rfl ?_
    refine K.iconst (0 : Int32) d0_29 rfl ?_
    refine K.iloadN d0_30 rfl ?_
    refine K.iastore d0_31 I51 (by decide) (by decide) g44 (fun h52 W53 A54 => ?_)
    have I55 := A50.other W53 (Nat.ne_of_lt lt_a35_a41)
    refine K.iload d0_32 rfl ?_
    refine K.iconst (1 : Int32) d0_34 rfl ?_
    refine K.ic_le d0_35 (fun u => absurd u (by decide)) (fun _ => ?_)
    refine K.iload d0_48 rfl ?_
    refine K.iconst (2 : Int32) d0_50 rfl ?_
    refine K.ic_le d0_51 (fun u => absurd u (by decide)) (fun _ => ?_)
    refine K.newO 3 6 d0_64 (wd1 hw) (wd2 hw) (wd3 hw) rfl rfl (by decide) (by decide) (fun h57 a56 ha58 g59 X60 A61 D62 => ?_)
    have lt_a35_a56 : a35 < a56 := by rw [ha58]; exact I55.lt
    have lt_a41_a56 : a41 < a56 := by rw [ha58]; exact A54.lt
    have I63 := I55.ext X60
    have I64 := A54.ext X60
    have F65 : Fld Z h57 a56 "com/example/educe/educe/index/PostingList" "documents" "[I" .null := D62 (Or.inr (wd11 hw)) (ty := (.array .int)) (by decide)
    have F66 : Fld Z h57 a56 "com/example/educe/educe/index/PostingList" "frequencies" "[I" .null := D62 (Or.inr (wd13 hw)) (ty := (.array .int)) (by decide)
    have F67 : Fld Z h57 a56 "com/example/educe/educe/index/PostingList" "positions" "[I" .null := D62 (Or.inr (wd15 hw)) (ty := (.array .int)) (by decide)
    have F68 : Fld Z h57 a56 "com/example/educe/educe/index/PostingList" "firstPositions" "[I" .null := D62 (Or.inr (wd17 hw)) (ty := (.array .int)) (by decide)
    refine K.dup d0_67 rfl ?_
    refine K.aload d0_68 rfl rfl ?_
    refine K.aload d0_70 rfl rfl ?_
    refine K.aconst_null d0_72 ?_
    refine K.callI (a := a56) [.ref a35, .ref a41, .null] [.ref a56] 1 3 6 d0_73 rfl rfl (wd4 hw) (wd5 hw) (wd3 hw) (wd6 hw) (by decide) (rmI l Z a0 hw a56 a35 a41 h57 n0 A61 F65 F66 F67 F68 g59) rfl (lenOf pd_1 rfl) rfl (Nat.le_of_eq rfl) (by decide) (by decide) rfl rfl (by decide) (by decide) (goU fun h69 q70 => ?_)
    obtain ⟨K71, E72, F73⟩ := q70
    have I74 := I63.keep K71 (ninS (Nat.ne_of_lt lt_a35_a56) nin0)
    have I75 := I64.keep K71 (ninS (Nat.ne_of_lt lt_a41_a56) nin0)
    have E76 := A61.keep K71
    refine K.astore #[.val (.int p), .val (.int q), .val (.int r), .val (.int t), .val (.int (1 : Int32)), .val (.ref a35), .val (.ref a41), .val (.ref a56), .unset, .unset] d0_76 rfl rfl ?_
    refine K.lconst (0 : Int64) d0_78 rfl ?_
    refine K.lstore #[.val (.int p), .val (.int q), .val (.int r), .val (.int t), .val (.int (1 : Int32)), .val (.ref a35), .val (.ref a41), .val (.ref a56), .val (.long (0 : Int64)), .second] d0_79 rfl ?_
    refine K.iload d0_81 rfl ?_
    refine K.if_le d0_83 (fun _ => ?_) (fun u => absurd (by decide) u)
    refine K.lload d0_86 rfl ?_
    refine K.iloadN d0_88 rfl ?_
    refine K.i2l d0_89 ?_
    refine K.ladd d0_90 ?_
    refine K.lstore #[.val (.int p), .val (.int q), .val (.int r), .val (.int t), .val (.int (1 : Int32)), .val (.ref a35), .val (.ref a41), .val (.ref a56), .val (.long ((0 : Int64) + q.toInt64)), .second] d0_91 rfl ?_
    refine K.iload d0_93 rfl ?_
    refine K.iconst (1 : Int32) d0_95 rfl ?_
    refine K.ic_le d0_96 (fun u => absurd u (by decide)) (fun _ => ?_)
    refine K.iload d0_106 rfl ?_
    refine K.iconst (2 : Int32) d0_108 rfl ?_
    refine K.ic_le d0_109 (fun u => absurd u (by decide)) (fun _ => ?_)
    refine K.aload d0_119 rfl rfl ?_
    refine K.callV (a := a56) [] [] 0 3 6 d0_121 (wd18 hw) (wd19 hw) (wd21 hw) (wd20 hw) (wd3 hw) (wd22 hw) (by decide) (rmF1 l Z a0 hw a56 a41 (fun k => if k = (0 : Int32) then .int q else (fun _ => .int 0) k) q h69 n0 F73 I75 rfl) E72 rfl (lenOf pd_2 rfl) rfl (Nat.le_of_eq rfl) (by decide) (by decide) rfl rfl (by decide) (by decide) (goP ?_)
    refine K.lload d0_124 rfl ?_
    refine K.lc_ne d0_126 d0_127 (fun _ => ?_) (fun u => absurd rfl u)
    refine K.iconst (1 : Int32) d0_130 rfl ?_
    refine K.goto d0_131 ?_
    exact K.ireturn d0_135 (Or.inr (Or.inl rfl)) rfl (by decide) (by decide) rfl
  · rw [hn]
    refine K.istore #[.val (.int p), .val (.int q), .val (.int r), .val (.int t), .val (.int (2 : Int32)), .unset, .unset, .unset, .unset, .unset] d0_3 rfl ?_
    refine K.iload d0_5 rfl ?_
    refine K.newP (ty := .int) (dv := .int 0) 2 1 2 d0_7 (wd0 hw) rfl rfl (by decide) (by decide) (by decide) rfl rfl (by decide) (by decide) (fun h78 a77 ha79 g80 X81 A82 => ?_)
    refine K.astore #[.val (.int p), .val (.int q), .val (.int r), .val (.int t), .val (.int (2 : Int32)), .val (.ref a77), .unset, .unset, .unset, .unset] d0_9 rfl rfl ?_
    refine K.iload d0_11 rfl ?_
    refine K.newP (ty := .int) (dv := .int 0) 2 2 4 d0_13 (wd0 hw) rfl rfl (by decide) (by decide) (by decide) rfl rfl (by decide) (by decide) (fun h84 a83 ha85 g86 X87 A88 => ?_)
    have lt_a77_a83 : a77 < a83 := by rw [ha85]; exact A82.lt
    have I89 := A82.ext X87
    refine K.astore #[.val (.int p), .val (.int q), .val (.int r), .val (.int t), .val (.int (2 : Int32)), .val (.ref a77), .val (.ref a83), .unset, .unset, .unset] d0_15 rfl rfl ?_
    refine K.iload d0_17 rfl ?_
    refine K.if_le d0_19 (fun _ => ?_) (fun u => absurd (by decide) u)
    refine K.aload d0_22 rfl rfl ?_
    refine K.iconst (0 : Int32) d0_24 rfl ?_
    refine K.iconst (0 : Int32) d0_25 rfl ?_
    refine K.iastore d0_26 I89 (by decide) (by decide) g80 (fun h90 W91 A92 => ?_)
    have I93 := A88.other W91 (Nat.ne_of_gt lt_a77_a83)
    refine K.aload d0_27 rfl rfl ?_
    refine K.iconst (0 : Int32) d0_29 rfl ?_
    refine K.iloadN d0_30 rfl ?_
    refine K.iastore d0_31 I93 (by decide) (by decide) g86 (fun h94 W95 A96 => ?_)
    have I97 := A92.other W95 (Nat.ne_of_lt lt_a77_a83)
    refine K.iload d0_32 rfl ?_
    refine K.iconst (1 : Int32) d0_34 rfl ?_
    refine K.ic_le d0_35 (fun _ => ?_) (fun u => absurd (by decide) u)
    refine K.aload d0_38 rfl rfl ?_
    refine K.iconst (1 : Int32) d0_40 rfl ?_
    refine K.iconst (1 : Int32) d0_41 rfl ?_
    refine K.iastore d0_42 I97 (by decide) (by decide) g80 (fun h98 W99 A100 => ?_)
    have I101 := A96.other W99 (Nat.ne_of_gt lt_a77_a83)
    refine K.aload d0_43 rfl rfl ?_
    refine K.iconst (1 : Int32) d0_45 rfl ?_
    refine K.iloadN d0_46 rfl ?_
    refine K.iastore d0_47 I101 (by decide) (by decide) g86 (fun h102 W103 A104 => ?_)
    have I105 := A100.other W103 (Nat.ne_of_lt lt_a77_a83)
    refine K.iload d0_48 rfl ?_
    refine K.iconst (2 : Int32) d0_50 rfl ?_
    refine K.ic_le d0_51 (fun u => absurd u (by decide)) (fun _ => ?_)
    refine K.newO 3 8 d0_64 (wd1 hw) (wd2 hw) (wd3 hw) rfl rfl (by decide) (by decide) (fun h107 a106 ha108 g109 X110 A111 D112 => ?_)
    have lt_a77_a106 : a77 < a106 := by rw [ha108]; exact I105.lt
    have lt_a83_a106 : a83 < a106 := by rw [ha108]; exact A104.lt
    have I113 := I105.ext X110
    have I114 := A104.ext X110
    have F115 : Fld Z h107 a106 "com/example/educe/educe/index/PostingList" "documents" "[I" .null := D112 (Or.inr (wd11 hw)) (ty := (.array .int)) (by decide)
    have F116 : Fld Z h107 a106 "com/example/educe/educe/index/PostingList" "frequencies" "[I" .null := D112 (Or.inr (wd13 hw)) (ty := (.array .int)) (by decide)
    have F117 : Fld Z h107 a106 "com/example/educe/educe/index/PostingList" "positions" "[I" .null := D112 (Or.inr (wd15 hw)) (ty := (.array .int)) (by decide)
    have F118 : Fld Z h107 a106 "com/example/educe/educe/index/PostingList" "firstPositions" "[I" .null := D112 (Or.inr (wd17 hw)) (ty := (.array .int)) (by decide)
    refine K.dup d0_67 rfl ?_
    refine K.aload d0_68 rfl rfl ?_
    refine K.aload d0_70 rfl rfl ?_
    refine K.aconst_null d0_72 ?_
    refine K.callI (a := a106) [.ref a77, .ref a83, .null] [.ref a106] 1 3 8 d0_73 rfl rfl (wd4 hw) (wd5 hw) (wd3 hw) (wd6 hw) (by decide) (rmI l Z a0 hw a106 a77 a83 h107 n0 A111 F115 F116 F117 F118 g109) rfl (lenOf pd_1 rfl) rfl (Nat.le_of_eq rfl) (by decide) (by decide) rfl rfl (by decide) (by decide) (goU fun h119 q120 => ?_)
    obtain ⟨K121, E122, F123⟩ := q120
    have I124 := I113.keep K121 (ninS (Nat.ne_of_lt lt_a77_a106) nin0)
    have I125 := I114.keep K121 (ninS (Nat.ne_of_lt lt_a83_a106) nin0)
    have E126 := A111.keep K121
    refine K.astore #[.val (.int p), .val (.int q), .val (.int r), .val (.int t), .val (.int (2 : Int32)), .val (.ref a77), .val (.ref a83), .val (.ref a106), .unset, .unset] d0_76 rfl rfl ?_
    refine K.lconst (0 : Int64) d0_78 rfl ?_
    refine K.lstore #[.val (.int p), .val (.int q), .val (.int r), .val (.int t), .val (.int (2 : Int32)), .val (.ref a77), .val (.ref a83), .val (.ref a106), .val (.long (0 : Int64)), .second] d0_79 rfl ?_
    refine K.iload d0_81 rfl ?_
    refine K.if_le d0_83 (fun _ => ?_) (fun u => absurd (by decide) u)
    refine K.lload d0_86 rfl ?_
    refine K.iloadN d0_88 rfl ?_
    refine K.i2l d0_89 ?_
    refine K.ladd d0_90 ?_
    refine K.lstore #[.val (.int p), .val (.int q), .val (.int r), .val (.int t), .val (.int (2 : Int32)), .val (.ref a77), .val (.ref a83), .val (.ref a106), .val (.long ((0 : Int64) + q.toInt64)), .second] d0_91 rfl ?_
    refine K.iload d0_93 rfl ?_
    refine K.iconst (1 : Int32) d0_95 rfl ?_
    refine K.ic_le d0_96 (fun _ => ?_) (fun u => absurd (by decide) u)
    refine K.lload d0_99 rfl ?_
    refine K.iloadN d0_101 rfl ?_
    refine K.i2l d0_102 ?_
    refine K.ladd d0_103 ?_
    refine K.lstore #[.val (.int p), .val (.int q), .val (.int r), .val (.int t), .val (.int (2 : Int32)), .val (.ref a77), .val (.ref a83), .val (.ref a106), .val (.long (((0 : Int64) + q.toInt64) + r.toInt64)), .second] d0_104 rfl ?_
    refine K.iload d0_106 rfl ?_
    refine K.iconst (2 : Int32) d0_108 rfl ?_
    refine K.ic_le d0_109 (fun u => absurd u (by decide)) (fun _ => ?_)
    refine K.aload d0_119 rfl rfl ?_
    refine K.callV (a := a106) [] [] 0 3 8 d0_121 (wd18 hw) (wd19 hw) (wd21 hw) (wd20 hw) (wd3 hw) (wd22 hw) (by decide) (rmF2 l Z a0 hw a106 a83 (fun k => if k = (1 : Int32) then .int r else (fun k => if k = (0 : Int32) then .int q else (fun _ => .int 0) k) k) q r h119 n0 F123 I125 rfl rfl) E122 rfl (lenOf pd_2 rfl) rfl (Nat.le_of_eq rfl) (by decide) (by decide) rfl rfl (by decide) (by decide) (goP ?_)
    refine K.lload d0_124 rfl ?_
    refine K.lc_ne d0_126 d0_127 (fun _ => ?_) (fun u => absurd rfl u)
    refine K.iconst (1 : Int32) d0_130 rfl ?_
    refine K.goto d0_131 ?_
    exact K.ireturn d0_135 (Or.inr (Or.inl rfl)) rfl (by decide) (by decide) rfl
  · rw [hn]
    refine K.istore #[.val (.int p), .val (.int q), .val (.int r), .val (.int t), .val (.int (3 : Int32)), .unset, .unset, .unset, .unset, .unset] d0_3 rfl ?_
    refine K.iload d0_5 rfl ?_
    refine K.newP (ty := .int) (dv := .int 0) 3 1 3 d0_7 (wd0 hw) rfl rfl (by decide) (by decide) (by decide) rfl rfl (by decide) (by decide) (fun h128 a127 ha129 g130 X131 A132 => ?_)
    refine K.astore #[.val (.int p), .val (.int q), .val (.int r), .val (.int t), .val (.int (3 : Int32)), .val (.ref a127), .unset, .unset, .unset, .unset] d0_9 rfl rfl ?_
    refine K.iload d0_11 rfl ?_
    refine K.newP (ty := .int) (dv := .int 0) 3 2 6 d0_13 (wd0 hw) rfl rfl (by decide) (by decide) (by decide) rfl rfl (by decide) (by decide) (fun h134 a133 ha135 g136 X137 A138 => ?_)
    have lt_a127_a133 : a127 < a133 := by rw [ha135]; exact A132.lt
    have I139 := A132.ext X137
    refine K.astore #[.val (.int p), .val (.int q), .val (.int r), .val (.int t), .val (.int (3 : Int32)), .val (.ref a127), .val (.ref a133), .unset, .unset, .unset] d0_15 rfl rfl ?_
    refine K.iload d0_17 rfl ?_
    refine K.if_le d0_19 (fun _ => ?_) (fun u => absurd (by decide) u)
    refine K.aload d0_22 rfl rfl ?_
    refine K.iconst (0 : Int32) d0_24 rfl ?_
    refine K.iconst (0 : Int32) d0_25 rfl ?_
    refine K.iastore d0_26 I139 (by decide) (by decide) g130 (fun h140 W141 A142 => ?_)
    have I143 := A138.other W141 (Nat.ne_of_gt lt_a127_a133)
    refine K.aload d0_27 rfl rfl ?_
    refine K.iconst (0 : Int32) d0_29 rfl ?_
    refine K.iloadN d0_30 rfl ?_
    refine K.iastore d0_31 I143 (by decide) (by decide) g136 (fun h144 W145 A146 => ?_)
    have I147 := A142.other W145 (Nat.ne_of_lt lt_a127_a133)
    refine K.iload d0_32 rfl ?_
    refine K.iconst (1 : Int32) d0_34 rfl ?_
    refine K.ic_le d0_35 (fun _ => ?_) (fun u => absurd (by decide) u)
    refine K.aload d0_38 rfl rfl ?_
    refine K.iconst (1 : Int32) d0_40 rfl ?_
    refine K.iconst (1 : Int32) d0_41 rfl ?_
    refine K.iastore d0_42 I147 (by decide) (by decide) g130 (fun h148 W149 A150 => ?_)
    have I151 := A146.other W149 (Nat.ne_of_gt lt_a127_a133)
    refine K.aload d0_43 rfl rfl ?_
    refine K.iconst (1 : Int32) d0_45 rfl ?_
    refine K.iloadN d0_46 rfl ?_
    refine K.iastore d0_47 I151 (by decide) (by decide) g136 (fun h152 W153 A154 => ?_)
    have I155 := A150.other W153 (Nat.ne_of_lt lt_a127_a133)
    refine K.iload d0_48 rfl ?_
    refine K.iconst (2 : Int32) d0_50 rfl ?_
    refine K.ic_le d0_51 (fun _ => ?_) (fun u => absurd (by decide) u)
    refine K.aload d0_54 rfl rfl ?_
    refine K.iconst (2 : Int32) d0_56 rfl ?_
    refine K.iconst (2 : Int32) d0_57 rfl ?_
    refine K.iastore d0_58 I155 (by decide) (by decide) g130 (fun h156 W157 A158 => ?_)
    have I159 := A154.other W157 (Nat.ne_of_gt lt_a127_a133)
    refine K.aload d0_59 rfl rfl ?_
    refine K.iconst (2 : Int32) d0_61 rfl ?_
    refine K.iloadN d0_62 rfl ?_
    refine K.iastore d0_63 I159 (by decide) (by decide) g136 (fun h160 W161 A162 => ?_)
    have I163 := A158.other W161 (Nat.ne_of_lt lt_a127_a133)
    refine K.newO 3 10 d0_64 (wd1 hw) (wd2 hw) (wd3 hw) rfl rfl (by decide) (by decide) (fun h165 a164 ha166 g167 X168 A169 D170 => ?_)
    have lt_a127_a164 : a127 < a164 := by rw [ha166]; exact I163.lt
    have lt_a133_a164 : a133 < a164 := by rw [ha166]; exact A162.lt
    have I171 := I163.ext X168
    have I172 := A162.ext X168
    have F173 : Fld Z h165 a164 "com/example/educe/educe/index/PostingList" "documents" "[I" .null := D170 (Or.inr (wd11 hw)) (ty := (.array .int)) (by decide)
    have F174 : Fld Z h165 a164 "com/example/educe/educe/index/PostingList" "frequencies" "[I" .null := D170 (Or.inr (wd13 hw)) (ty := (.array .int)) (by decide)
    have F175 : Fld Z h165 a164 "com/example/educe/educe/index/PostingList" "positions" "[I" .null := D170 (Or.inr (wd15 hw)) (ty := (.array .int)) (by decide)
    have F176 : Fld Z h165 a164 "com/example/educe/educe/index/PostingList" "firstPositions" "[I" .null := D170 (Or.inr (wd17 hw)) (ty := (.array .int)) (by decide)
    refine K.dup d0_67 rfl ?_
    refine K.aload d0_68 rfl rfl ?_
    refine K.aload d0_70 rfl rfl ?_
    refine K.aconst_null d0_72 ?_
    refine K.callI (a := a164) [.ref a127, .ref a133, .null] [.ref a164] 1 3 10 d0_73 rfl rfl (wd4 hw) (wd5 hw) (wd3 hw) (wd6 hw) (by decide) (rmI l Z a0 hw a164 a127 a133 h165 n0 A169 F173 F174 F175 F176 g167) rfl (lenOf pd_1 rfl) rfl (Nat.le_of_eq rfl) (by decide) (by decide) rfl rfl (by decide) (by decide) (goU fun h177 q178 => ?_)
    obtain ⟨K179, E180, F181⟩ := q178
    have I182 := I171.keep K179 (ninS (Nat.ne_of_lt lt_a127_a164) nin0)
    have I183 := I172.keep K179 (ninS (Nat.ne_of_lt lt_a133_a164) nin0)
    have E184 := A169.keep K179
    refine K.astore #[.val (.int p), .val (.int q), .val (.int r), .val (.int t), .val (.int (3 : Int32)), .val (.ref a127), .val (.ref a133), .val (.ref a164), .unset, .unset] d0_76 rfl rfl ?_
    refine K.lconst (0 : Int64) d0_78 rfl ?_
    refine K.lstore #[.val (.int p), .val (.int q), .val (.int r), .val (.int t), .val (.int (3 : Int32)), .val (.ref a127), .val (.ref a133), .val (.ref a164), .val (.long (0 : Int64)), .second] d0_79 rfl ?_
    refine K.iload d0_81 rfl ?_
    refine K.if_le d0_83 (fun _ => ?_) (fun u => absurd (by decide) u)
    refine K.lload d0_86 rfl ?_
    refine K.iloadN d0_88 rfl ?_
    refine K.i2l d0_89 ?_
    refine K.ladd d0_90 ?_
    refine K.lstore #[.val (.int p), .val (.int q), .val (.int r), .val (.int t), .val (.int (3 : Int32)), .val (.ref a127), .val (.ref a133), .val (.ref a164), .val (.long ((0 : Int64) + q.toInt64)), .second] d0_91 rfl ?_
    refine K.iload d0_93 rfl ?_
    refine K.iconst (1 : Int32) d0_95 rfl ?_
    refine K.ic_le d0_96 (fun _ => ?_) (fun u => absurd (by decide) u)
    refine K.lload d0_99 rfl ?_
    refine K.iloadN d0_101 rfl ?_
    refine K.i2l d0_102 ?_
    refine K.ladd d0_103 ?_
    refine K.lstore #[.val (.int p), .val (.int q), .val (.int r), .val (.int t), .val (.int (3 : Int32)), .val (.ref a127), .val (.ref a133), .val (.ref a164), .val (.long (((0 : Int64) + q.toInt64) + r.toInt64)), .second] d0_104 rfl ?_
    refine K.iload d0_106 rfl ?_
    refine K.iconst (2 : Int32) d0_108 rfl ?_
    refine K.ic_le d0_109 (fun _ => ?_) (fun u => absurd (by decide) u)
    refine K.lload d0_112 rfl ?_
    refine K.iloadN d0_114 rfl ?_
    refine K.i2l d0_115 ?_
    refine K.ladd d0_116 ?_
    refine K.lstore #[.val (.int p), .val (.int q), .val (.int r), .val (.int t), .val (.int (3 : Int32)), .val (.ref a127), .val (.ref a133), .val (.ref a164), .val (.long ((((0 : Int64) + q.toInt64) + r.toInt64) + t.toInt64)), .second] d0_117 rfl ?_
    refine K.aload d0_119 rfl rfl ?_
    refine K.callV (a := a164) [] [] 0 3 10 d0_121 (wd18 hw) (wd19 hw) (wd21 hw) (wd20 hw) (wd3 hw) (wd22 hw) (by decide) (rmF3 l Z a0 hw a164 a133 (fun k => if k = (2 : Int32) then .int t else (fun k => if k = (1 : Int32) then .int r else (fun k => if k = (0 : Int32) then .int q else (fun _ => .int 0) k) k) k) q r t h177 n0 F181 I183 rfl rfl rfl) E180 rfl (lenOf pd_2 rfl) rfl (Nat.le_of_eq rfl) (by decide) (by decide) rfl rfl (by decide) (by decide) (goP ?_)
    refine K.lload d0_124 rfl ?_
    refine K.lc_ne d0_126 d0_127 (fun _ => ?_) (fun u => absurd rfl u)
    refine K.iconst (1 : Int32) d0_130 rfl ?_
    refine K.goto d0_131 ?_
    exact K.ireturn d0_135 (Or.inr (Or.inl rfl)) rfl (by decide) (by decide) rfl
set_option maxRecDepth 65536 in
set_option maxHeartbeats 40000000 in
theorem comes_1 {Post : Tables → Env → Array Value → State → Outcome → State → Prop} (hpost : ∀ tb e args s v u, (limb_1_1.after args s (.returned v) u = true ∧ limb_1_2.after args s (.returned v) u = true ∧ True) → FrameEnd s (.returned v) u (Jvm.fieldLocs frame_1_writes args s ++ Jvm.arrayLocs frame_1_arrays args s ++ Jvm.staticLocs frame_1_statics s) 16 128 → Post tb e args s (.returned v) u) :
    ArmFor flags0 classFile x code maxLocals ret World_1 tables_1 room_1 Calls_1 rest_1 Pre_1 Post := by
  intro l hfl _ _ p e ha hc hk s m args below hf hA hF happ hP
  obtain ⟨hcalls, hrest, hpre⟩ := hP
  obtain ⟨-, -, -, hnamed, -, -, -, hat⟩ := (Spec.applies_iff hf).mp happ
  obtain ⟨hg, hn⟩ := and_e (Cond.before_iff.mp (show (Jvm.Cond.and given_1 narrow_1).before args s = true from hpre))
  obtain ⟨hcount, hk0⟩ := and_e hg
  obtain ⟨ha0, hk1⟩ := and_e hk0
  obtain ⟨ha1, hk2⟩ := and_e hk1
  obtain ⟨ha2, hk3⟩ := and_e hk2
  obtain ⟨w0, w1, w2, w3, rfl⟩ : ∃ w0 w1 w2 w3 : Value, args = #[w0, w1, w2, w3] := by
    have hs : args.size = 4 := by simpa [Cond.value, given_1] using hcount
    obtain ⟨L⟩ := args
    match L, hs with
    | [w0, w1, w2, w3], _ => exact ⟨w0, w1, w2, w3, rfl⟩
  have hw := fun d (hd : d ∈ tables_1) => atoms_spec (ws := Jvm.Cond.code x code maxLocals ret :: tables_1) hat d (List.mem_cons_of_mem _ hd)
  obtain ⟨i0, e0⟩ := is_v ha0
  obtain rfl : w0 = (.int i0) := Option.some.inj e0
  obtain ⟨i1, e1⟩ := is_v ha1
  obtain rfl : w1 = (.int i1) := Option.some.inj e1
  obtain ⟨i2, e2⟩ := is_v ha2
  obtain rfl : w2 = (.int i2) := Option.some.inj e2
  obtain ⟨i3, e3⟩ := is_v hk3
  obtain rfl : w3 = (.int i3) := Option.some.inj e3

  obtain ⟨n, o, h1, h2, h3, _, L, rfl, ⟨rfl, N⟩, hq⟩ := rm0 l s _ hw i0 i1 i2 i3  s.heap s.heap.size  (Nat.le_refl _) tables_1 p e ha hc hk s m _ below hf ((Spec.applies_iff_loose hf).mp happ).1 ⟨rfl, State.Warmed39.refl s, rfl⟩ trivial
  refine ⟨n, _, h1, h2, h3, hpost _ _ _ _ _ _ ⟨Cond.after_iff.mpr rfl, Cond.after_iff.mpr (eq_i res_at (Term.int_eval (1)) rfl), trivial⟩ ⟨hq.1, hq.2.1, (hq.2.2.sift fun y hy => Or.inr (N y hy)).mono (by decide) (by decide)⟩⟩
theorem main_1_1 : Claimed_1_1 := comes_1 fun _ _ _ _ _ _ h hF => ⟨h.1, hF⟩
theorem main_1_2 : Claimed_1_2 := comes_1 fun _ _ _ _ _ _ h hF => ⟨h.2.1, hF⟩
end Jvm.Pilot.@@N@@
namespace Jvm.Pilot.@@N@@
open Jvm Jvm.ClassFile Sem Op Lib Jvm.Free Jvm.Stand Jvm.Pilot.@@N@@.Jvm.D
/-! MADE BY PROGRAM (witnessworld.py) out of the Statement's table words and the real class files: 9 classes; the members and pool entries that the words name. The judged class is class 1, her method 1. -/
namespace start1
open Jvm.ClassFile
def u (s : String) : CpInfo := .utf8 (stringToUtf16 s)
/-- a pool by its gaps: so many unusable entries, then the entry; so many at the end -/
def gap : Nat → List CpInfo → List CpInfo
  | 0, r => r
  | n + 1, r => .unusable :: gap n r
def poolList (es : List (Nat × CpInfo)) (last : Nat) : List CpInfo := es.foldr (fun e r => gap e.1 (e.2 :: r)) (gap last [])
def pool (es : List (Nat × CpInfo)) (last : Nat) : Array CpInfo := ⟨poolList es last⟩
def fileOf (pool : Array CpInfo) (this : Nat) (attrs : Array Attribute := #[]) (ms : Array MethodInfo := #[]) (fl : Nat := 33) (sup : Nat := 0) (ifs : Array Nat := #[]) (fds : Array FieldInfo := #[]) : ClassFile where
  minorVersion := 0
  majorVersion := 65
  constantPool := pool
  accessFlags := fl
  thisClass := this
  superClass := sup
  interfaces := ifs
  fields := fds
  methods := ms
  attributes := attrs
def plain (name : String) (sup : Option ClassId) : Class where
  name := name
  kind := .ordinary
  loader := none
  accessFlags := 33
  super := sup
  interfaces := #[]
  cf := none
  fields := #[]
  methods := #[]
  instanceTypes := #[]
  staticTypes := #[]
  resolved := #[]
  callSites := []
  init := .initialized
  statics := none
  mirror := none

def pool0 : Array CpInfo := pool [(5, u "<init>"), (0, u "()V"), (1, .class_ 10), (1, u "java/lang/Object")] 113

def k0c0 : Code := { maxStack := 0, maxLocals := 1, code := object_method_1_code, exceptionTable := #[], attributes := #[] }
def k0m0 : Method := { name := "<init>", desc := "()V", sig := { parameters := [], returnType := none }, accessFlags := 1, code := some k0c0 }
/-- java/lang/Object -/
def k0 : Class := { plain "java/lang/Object" none with
  accessFlags := 33
  interfaces := #[]
  cf := some (fileOf pool0 8 #[] #[{ accessFlags := 1, nameIndex := 5, descriptorIndex := 6, attributes := #[] }] 33 0 #[] #[])
  fields := #[]
  methods := #[k0m0]
  instanceTypes := #[]
  staticTypes := #[]
  resolved := Array.replicate 124 none
  statics := none }

def pool1 : Array CpInfo := pool [(2, .class_ 4), (1, u "java/lang/Object"), (0, u "<init>"), (0, u "()V"), (0, .class_ 8), (0, u "com/example/educe/educe/index/PostingList"), (0, .methodref 7 10), (0, .nameAndType 5 11), (0, u "([I[I[I)V"), (0, .methodref 7 13), (0, .nameAndType 14 15), (0, u "collectionFrequency"), (0, u "()J"), (0, .class_ 17), (0, u "com/example/educe/educe/index/PostingListCollectionFrequencyPinLaw"), (2, u "law"), (0, u "(IIII)Z")] 5

def k1m0 : Method := { name := "<init>", desc := "()V", sig := { parameters := [], returnType := none }, accessFlags := 1, code := none }
def k1c1 : Code := { maxStack := 5, maxLocals := 10, code := code, exceptionTable := #[], attributes := #[] }
def k1m1 : Method := { name := "law", desc := "(IIII)Z", sig := { parameters := [.int, .int, .int, .int], returnType := some .boolean }, accessFlags := 9, code := some k1c1 }
/-- com/example/educe/educe/index/PostingListCollectionFrequencyPinLaw -/
def k1 : Class := { plain "com/example/educe/educe/index/PostingListCollectionFrequencyPinLaw" (some 0) with
  accessFlags := 49
  interfaces := #[]
  cf := some (fileOf pool1 16 #[] #[{ accessFlags := 1, nameIndex := 5, descriptorIndex := 6, attributes := #[] }, { accessFlags := 9, nameIndex := 20, descriptorIndex := 21, attributes := #[] }] 49 2 #[] #[])
  fields := #[]
  methods := #[k1m0, k1m1]
  instanceTypes := #[]
  staticTypes := #[]
  resolved := Array.replicate 27 none
  statics := none }

def pool2 : Array CpInfo := pool [(1, .methodref 2 3), (0, .class_ 4), (0, .nameAndType 5 6), (0, u "java/lang/Object"), (0, u "<init>"), (0, u "()V"), (0, .fieldref 8 9), (0, .class_ 10), (0, .nameAndType 11 12), (0, u "com/example/educe/educe/index/PostingList"), (0, u "documents"), (0, u "[I"), (0, .fieldref 8 14), (0, .nameAndType 15 12), (0, u "frequencies"), (0, .fieldref 8 17), (0, .nameAndType 18 12), (0, u "positions"), (0, .fieldref 8 20), (0, .nameAndType 21 12), (0, u "firstPositions"), (13, u "([I[I[I)V"), (10, u "collectionFrequency"), (0, u "()J")] 2

def k2c0 : Code := { maxStack := 6, maxLocals := 5, code := prog_45_method_1_code, exceptionTable := #[], attributes := #[] }
def k2m0 : Method := { name := "<init>", desc := "([I[I[I)V", sig := { parameters := [(.array .int), (.array .int), (.array .int)], returnType := none }, accessFlags := 0, code := some k2c0 }
def k2c1 : Code := { maxStack := 4, maxLocals := 7, code := prog_45_method_6_code, exceptionTable := #[], attributes := #[] }
def k2m1 : Method := { name := "collectionFrequency", desc := "()J", sig := { parameters := [], returnType := some .long }, accessFlags := 1, code := some k2c1 }
/-- com/example/educe/educe/index/PostingList -/
def k2 : Class := { plain "com/example/educe/educe/index/PostingList" (some 0) with
  accessFlags := 33
  interfaces := #[]
  cf := some (fileOf pool2 8 #[] #[{ accessFlags := 0, nameIndex := 5, descriptorIndex := 35, attributes := #[] }, { accessFlags := 1, nameIndex := 46, descriptorIndex := 47, attributes := #[] }] 33 2 #[] #[{ accessFlags := 18, nameIndex := 11, descriptorIndex := 12, attributes := #[] }, { accessFlags := 18, nameIndex := 15, descriptorIndex := 12, attributes := #[] }, { accessFlags := 18, nameIndex := 18, descriptorIndex := 12, attributes := #[] }, { accessFlags := 18, nameIndex := 21, descriptorIndex := 12, attributes := #[] }])
  fields := #[{ name := "documents", type := (.array .int), accessFlags := 18, slot := 0, constantValue := 0 }, { name := "frequencies", type := (.array .int), accessFlags := 18, slot := 1, constantValue := 0 }, { name := "positions", type := (.array .int), accessFlags := 18, slot := 2, constantValue := 0 }, { name := "firstPositions", type := (.array .int), accessFlags := 18, slot := 3, constantValue := 0 }]
  methods := #[k2m0, k2m1]
  instanceTypes := #[(.array .int), (.array .int), (.array .int), (.array .int)]
  staticTypes := #[]
  resolved := Array.replicate 50 none
  statics := none }

def pool3 : Array CpInfo := pool [(1, u "java/lang/Cloneable"), (0, .class_ 1), (0, u "java/lang/Object"), (0, .class_ 3)] 3

/-- java/lang/Cloneable -/
def k3 : Class := { plain "java/lang/Cloneable" (some 0) with
  accessFlags := 1537
  interfaces := #[]
  cf := some (fileOf pool3 2 #[] #[] 1537 4 #[] #[])
  fields := #[]
  methods := #[]
  instanceTypes := #[]
  staticTypes := #[]
  resolved := Array.replicate 8 none
  statics := none }

def pool4 : Array CpInfo := pool [(1, u "java/io/Serializable"), (0, .class_ 1), (0, u "java/lang/Object"), (0, .class_ 3)] 3

/-- java/io/Serializable -/
def k4 : Class := { plain "java/io/Serializable" (some 0) with
  accessFlags := 1537
  interfaces := #[]
  cf := some (fileOf pool4 2 #[] #[] 1537 4 #[] #[])
  fields := #[]
  methods := #[]
  instanceTypes := #[]
  staticTypes := #[]
  resolved := Array.replicate 8 none
  statics := none }

/-- the primitive byte -/
def k5 : Class := { plain "byte" none with kind := .primitive 'B', accessFlags := 0x411 }
/-- [B -/
def k6 : Class := { plain "[B" (some 0) with kind := .array 5 .byte, interfaces := #[3, 4], accessFlags := 1041 }

/-- the primitive int -/
def k7 : Class := { plain "int" none with kind := .primitive 'I', accessFlags := 0x411 }
/-- [I -/
def k8 : Class := { plain "[I" (some 0) with kind := .array 7 .int, interfaces := #[3, 4], accessFlags := 1041 }

def heap : Heap := #[]
def classes : Array Class := #[k0, k1, k2, k3, k4, k5, k6, k7, k8]
def interned : List (Array UInt16 × Addr) := []
def slotsUsed : Nat := 0
def theMethod : MethodId := ⟨1, 1⟩
def args0 : Array Value := #[.int 4, .int 9, .int 1, .int 2]
def aboutOver (below : List Frame) : State where
  vm := { classes := classes, interned := interned.toArray }
  heap := heap
  slotsUsed := slotsUsed
  threads := #[{ frames := .invoking theMethod args0 :: below }]
def below0 : List Frame := [.native { method := ⟨0, 0⟩, args := #[] }]
def about1 : State := aboutOver below0
def p0 : Program := .bare "" "" ""
def e0 : Env := launch0.env 0 0 0
theorem w_frames : about1.frames = Frame.invoking theMethod args0 :: below0 := rfl
set_option maxRecDepth 65536 in
theorem w_args : argsFit about1.vm theMethod args0 = true := by decide +kernel
set_option maxRecDepth 65536 in
theorem w_heap : heapFits about1 = true := by decide +kernel
set_option maxRecDepth 65536 in
theorem w_runnable : about1.curStatus? = some .runnable := by decide +kernel
set_option maxRecDepth 65536 in
theorem w_alone : about1.alone = true := by decide +kernel
set_option maxRecDepth 65536 in
theorem w_named : about1.methodNamed? x = some theMethod := by decide +kernel
set_option maxRecDepth 65536 in
theorem w_hears : about1.hears theMethod below0 = true := by decide +kernel
set_option maxRecDepth 65536 in
theorem w_ripe : about1.ripe theMethod args0 below0 = true := by decide +kernel
theorem w_running : about1.status = .running := rfl
set_option maxRecDepth 65536 in
theorem w_room : about1.hasRoom e0.platform room_1 = true :=
  launch0.hasRoom_least _ room_1 (by decide +kernel) (by decide +kernel) (by decide +kernel) (by decide +kernel) (by decide +kernel) (by decide +kernel)
theorem allAtoms_all (ts : List Jvm.Cond) (a : Array Jvm.Value) (st : Jvm.State) : (allAtoms ts).before a st = ts.all (fun c => c.before a st) := by
  induction ts with
  | nil => rfl
  | cons c t ih =>
    show (Jvm.Cond.and c (allAtoms t)).before a st = _
    rw [Jvm.Cond.before_and, ih, List.all_cons]
def words1 : List Jvm.Cond := Jvm.Cond.code x code maxLocals ret :: tables_1
/-- a 'code' word, met by the world's own term for the bytes: nothing is compared byte by byte -/
theorem code_word {y : MethodName} {bytes : ByteArray} {mx : Nat} {rt : Option FieldType} {a : Array Value} {s : State} {m : MethodId} {meth : Method} {c : Code} (h1 : s.methodNamed? y = some m) (h2 : s.vm.method? m = some meth) (h3 : meth.code = some c) (h4 : c.code = bytes)
    (h5 : (c.maxLocals == mx && c.exceptionTable.isEmpty && decide (c.maxStack ≤ mostOperands) && decide (meth.sig.returnType = rt) && !meth.locks && decide (parseMethodDescriptor y.desc = some meth.sig)) = true) : (Jvm.Cond.code y bytes mx rt).before a s = true := by
  simp only [Bool.and_eq_true, beq_iff_eq, Bool.not_eq_true', decide_eq_true_eq] at h5
  obtain ⟨⟨⟨⟨⟨g1, g2⟩, g3⟩, g4⟩, g5⟩, g6⟩ := h5
  simp [Cond.before, Cond.holds, Cond.value, h1, h2, h3, h4, g1, g2, g3, g4, g5, g6]
def isCode : Jvm.Cond → Bool
  | .code _ _ _ _ => true
  | _ => false
theorem all_split {L : List Jvm.Cond} {P : Jvm.Cond → Bool} (h1 : L.all (fun c => isCode c || P c) = true) (h2 : ∀ c ∈ L.filter isCode, P c = true) : L.all P = true := by
  refine List.all_eq_true.mpr fun c hc => ?_
  have h := List.all_eq_true.mp h1 c hc
  rcases Bool.eq_false_or_eq_true (isCode c) with hi | hi
  · exact h2 c (List.mem_filter.mpr ⟨hc, hi⟩)
  · simpa [hi] using h
set_option maxRecDepth 65536 in
theorem w_c0 : (Jvm.Cond.code x code maxLocals ret).before args0 about1 = true := code_word (m := ⟨1, 1⟩) (meth := k1m1) (c := k1c1) (by decide +kernel) rfl rfl rfl (by decide +kernel)
set_option maxRecDepth 65536 in
theorem w_c1 : (Jvm.Cond.code ({ cls := "com/example/educe/educe/index/PostingList", name := "<init>", desc := "([I[I[I)V" } : Jvm.MethodName) prog_45_method_1_code (5 : Nat) (Option.none : Option Jvm.ClassFile.FieldType)).before args0 about1 = true := code_word (m := ⟨2, 0⟩) (meth := k2m0) (c := k2c0) (by decide +kernel) rfl rfl rfl (by decide +kernel)
set_option maxRecDepth 65536 in
theorem w_c2 : (Jvm.Cond.code ({ cls := "java/lang/Object", name := "<init>", desc := "()V" } : Jvm.MethodName) object_method_1_code (1 : Nat) (Option.none : Option Jvm.ClassFile.FieldType)).before args0 about1 = true := code_word (m := ⟨0, 0⟩) (meth := k0m0) (c := k0c0) (by decide +kernel) rfl rfl rfl (by decide +kernel)
set_option maxRecDepth 65536 in
theorem w_c3 : (Jvm.Cond.code ({ cls := "com/example/educe/educe/index/PostingList", name := "collectionFrequency", desc := "()J" } : Jvm.MethodName) prog_45_method_6_code (7 : Nat) (Option.some Jvm.ClassFile.FieldType.long)).before args0 about1 = true := code_word (m := ⟨2, 1⟩) (meth := k2m1) (c := k2c1) (by decide +kernel) rfl rfl rfl (by decide +kernel)
def codes1 : List Jvm.Cond := [Jvm.Cond.code x code maxLocals ret, Jvm.Cond.code ({ cls := "com/example/educe/educe/index/PostingList", name := "<init>", desc := "([I[I[I)V" } : Jvm.MethodName) prog_45_method_1_code (5 : Nat) (Option.none : Option Jvm.ClassFile.FieldType), Jvm.Cond.code ({ cls := "java/lang/Object", name := "<init>", desc := "()V" } : Jvm.MethodName) object_method_1_code (1 : Nat) (Option.none : Option Jvm.ClassFile.FieldType), Jvm.Cond.code ({ cls := "com/example/educe/educe/index/PostingList", name := "collectionFrequency", desc := "()J" } : Jvm.MethodName) prog_45_method_6_code (7 : Nat) (Option.some Jvm.ClassFile.FieldType.long)]
set_option maxRecDepth 65536 in
theorem codes_eq : words1.filter isCode = codes1 := rfl
theorem w_codes : ∀ c ∈ words1.filter isCode, c.before args0 about1 = true := by
  rw [codes_eq]
  intro c hc
  simp only [codes1, List.mem_cons, List.not_mem_nil, or_false] at hc
  rcases hc with rfl | rfl | rfl | rfl
  · exact w_c0
  · exact w_c1
  · exact w_c2
  · exact w_c3
set_option maxRecDepth 65536 in
theorem w_t1 : words1.all (fun c => isCode c || c.before args0 about1) = true := by decide +kernel
theorem w_tables : (allAtoms (Jvm.Cond.code x code maxLocals ret :: tables_1)).before args0 about1 = true := by
  rw [allAtoms_all]
  show words1.all (fun c => c.before args0 about1) = true
  refine all_split ?_ w_codes
  rw [w_t1]
set_option maxRecDepth 65536 in
theorem w_case : (Jvm.Cond.and given_1 narrow_1).before args0 about1 = true := by decide +kernel
theorem w_applies : (headSpec (Jvm.Cond.code x code maxLocals ret :: tables_1) room_1).applies x e0.platform about1 = true :=
  (Spec.applies_iff w_frames).mpr ⟨w_running, w_runnable, w_alone, w_named, w_hears, w_ripe, w_room, w_tables⟩
theorem atStart : AtStart classFile x code maxLocals ret World_1 tables_1 room_1 Calls_1 rest_1 Pre_1 launch0 p0 e0 about1 theMethod args0 below0 :=
  ⟨lists_1, trivial, launch0.admits_env _ _ _, launch0.least_env, fairChoices_fair.cas, fairChoices_fair.clock, w_frames, w_args, w_heap, w_applies, trivial, trivial, w_case⟩
end start1
theorem witness_1 : WitnessClaimed_1 := ⟨start1.p0, start1.e0, start1.about1, start1.theMethod, start1.args0, start1.below0, start1.atStart⟩
end Jvm.Pilot.@@N@@
