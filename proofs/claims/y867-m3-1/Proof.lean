import JvmDerived
import JvmDerived.Pilot.@@N@@Statement
import JvmDerived.Pilot.@@N@@Code
set_option linter.unusedVariables false
set_option linter.unusedSimpArgs false
namespace Jvm.Pilot.@@N@@
open Jvm Jvm.ClassFile Sem Op Lib Jvm.Free Jvm.Stand Jvm.LawKit Jvm.RoadKit Bundle Jvm.Pilot.@@N@@.Jvm.D
section Own
theorem cut {P G : Prop} (f : P → G) (g : P) : G := f g
theorem ha_ge {h0 h : Heap} {a : Addr} (q : h0.size ≤ h.size) (e : a = h.size) : h0.size ≤ a := by rw [e]; exact q
/-- what stands fixed in one invocation's walk -/
abbrev Ev : Type := Program × Launch × Env × Room × State × MethodId × Array Value × List Frame × Method × Code × Nat × (Option Value → Heap → Prop)
def Dc (bytes : ByteArray) (pc : Nat) (i : Instr) (len pc' : Nat) : Prop := decode bytes pc = .ok (i, len) ∧ pc + len = pc'
def Db (bytes : ByteArray) (pc : Nat) (i : Instr) (o : Int) (pc1 pc2 : Nat) : Prop := decode bytes pc = .ok (i, 3) ∧ pc + 3 = pc1 ∧ 0 ≤ (pc : Int) + o ∧ ((pc : Int) + o).toNat = pc2
/-- from this heap, these counts, pc, locals and stack the invocation comes to a return of which its Q holds -/
def Wk : Ev → Heap → Nat → Nat → Nat → Array Slot → List Value → Prop
  | (p, l, e, R, s, m, args, below, meth, c, n0, Q), h, kc, kn, pc, ls, st => ∀ (T : State) (locs : List Loc), Stand p l e R s m args below meth c T locs kc kn → T.heap = h → Fr n0 locs →
    ∃ s₂ o, Steps p.tables e below (T.setTop (mkF m pc ls st)) s₂ ∧ s₂.status = .running ∧ Ended s₂ below o ∧ ∃ v L, o = .returned v ∧ (Q v s₂.heap ∧ Fr n0 L) ∧ FrameEnd s o s₂ L R.cells R.slots
def Kf (p : Program) (s : State) (m : MethodId) (meth : Method) (c : Code) (y : MethodName) (bytes : ByteArray) (ml : Nat) (rt : Option FieldType) (Z : State) (n0 : Nat) : Prop :=
  p.tables.exec = Jvm.exec ∧ c.code = bytes ∧ c.maxLocals = ml ∧ meth.sig.returnType = rt ∧ meth.locks = false ∧ Z.Warmed39 s.vm ∧ s.vm.findClass y.cls = some m.cls ∧ meth.name = y.name ∧ n0 ≤ s.heap.size
def Kx (E : Ev) (y : MethodName) (bytes : ByteArray) (ml : Nat) (rt : Option FieldType) (l : Launch) (Z : State) (R : Room) (n0 : Nat) (Q : Option Value → Heap → Prop) : Prop :=
  ∃ p e s m args below meth c, E = (p, l, e, R, s, m, args, below, meth, c, n0, Q) ∧ Kf p s m meth c y bytes ml rt Z n0
/-- a callee's contract at one heap and one row of arguments -/
def Con (l : Launch) (Z : State) (y : MethodName) (bytes : ByteArray) (ml : Nat) (rt : Option FieldType) (rm : Room) (as : Array Value) (h : Heap) (n0 : Nat) (Q : Option Value → Heap → Prop) : Prop :=
  n0 ≤ h.size → ∀ ws : List Jvm.Cond, MetFree l y (head1 (Jvm.Cond.code y bytes ml rt :: ws) rm) (fun a U => a = as ∧ Z.Warmed39 U.vm ∧ U.heap = h) (fun _ _ _ _ _ => True) (fun _ U o U' => ∃ v L, o = .returned v ∧ (Q v U'.heap ∧ Fr n0 L) ∧ FrameEnd U o U' L rm.cells rm.slots)
variable {E : Ev} {y : MethodName} {bytes : ByteArray} {ml : Nat} {rt : Option FieldType} {l : Launch} {Z : State} {R : Room} {n0 : Nat} {Q : Option Value → Heap → Prop} {a0 : Array Value} {h h' : Heap} {kc kn kc' kn' pc pc' pc1 pc2 : Nat} {ls ls' : Array Slot} {st : List Value} {a b : Addr}
theorem Con.of (pn : plainFor y = true) {as : Array Value} {rm : Room} (ef : ∀ m, entryFrame m as ml = mkF m 0 ls []) (body : ∀ E : Ev, Kx E y bytes ml rt l Z rm n0 Q → Wk E h 0 0 0 ls []) : Con l Z y bytes ml rt rm as h n0 Q := by
  intro hn ws
  refine MetFree.of_bodySF pn hisR ?_
  intro p e s m args below meth c s₁ Bd hml0 hP hK
  obtain ⟨ha, hZ, hh⟩ := hP
  subst ha
  have X0 : Stand p l e rm s m args below meth c s₁ [] 0 0 := Stand.of_body Bd
  have e0 : s₁.heap = h := by rw [← hh, Bd.state]; rfl
  obtain ⟨s₂, o, q, r⟩ := body (p, l, e, rm, s, m, args, below, meth, c, n0, Q) ⟨p, e, s, m, args, below, meth, c, rfl, Bd.exec, Bd.bytes, hml0, Bd.returns, Bd.notSynchronized, hZ, findClass_of_methodNamed Bd.named, (name_of_methodNamed Bd.named Bd.method).1, by rw [hh]; exact hn⟩ s₁ [] X0 e0 (Fr.nil n0)
  exact ⟨s₂, o, castTop (ef m) q, r⟩
theorem Kx.lift {st' : List Value} (K : Kx E y bytes ml rt l Z R n0 Q) (f : ∀ (p : Program) (e : Env) (s : State) (m : MethodId) (args : Array Value) (below : List Frame) (meth : Method) (c : Code), Kf p s m meth c y bytes ml rt Z n0 → ∀ (T : State) (locs : List Loc), Stand p l e R s m args below meth c T locs kc kn → T.heap = h → ∀ t, Steps p.tables e below (T.setTop (mkF m pc' ls' st)) t → Steps p.tables e below (T.setTop (mkF m pc ls st')) t) (k : Wk E h kc kn pc' ls' st) : Wk E h kc kn pc ls st' := by
  obtain ⟨p, e, s, m, args, below, meth, c, rfl, F⟩ := K
  intro T locs X eT N
  obtain ⟨s₂, o, q, r⟩ := k T locs X eT N
  exact ⟨s₂, o, f p e s m args below meth c F T locs X eT s₂ q, r⟩
theorem Kx.move (K : Kx E y bytes ml rt l Z R n0 Q) (f : ∀ (p : Program) (e : Env) (s : State) (m : MethodId) (args : Array Value) (below : List Frame) (meth : Method) (c : Code), Kf p s m meth c y bytes ml rt Z n0 → ∀ (T : State) (locs : List Loc), Stand p l e R s m args below meth c T locs kc kn → T.heap = h → Fr n0 locs →
    ∃ (T' : State) (locs' : List Loc) (h' : Heap) (kc' kn' pc' : Nat) (ls' : Array Slot) (st' : List Value), Stand p l e R s m args below meth c T' locs' kc' kn' ∧ T'.heap = h' ∧ Fr n0 locs' ∧ h.size ≤ h'.size ∧ Wk E h' kc' kn' pc' ls' st' ∧ ∀ t, Steps p.tables e below (T'.setTop (mkF m pc' ls' st')) t → Steps p.tables e below (T.setTop (mkF m pc ls st)) t) : Wk E h kc kn pc ls st := by
  obtain ⟨p, e, s, m, args, below, meth, c, rfl, F⟩ := K
  intro T locs X eT N
  obtain ⟨T', locs', h', kc', kn', pc', ls', st', X', e', N', -, k, q'⟩ := f p e s m args below meth c F T locs X eT N
  obtain ⟨s₂, o, q, r⟩ := k T' locs' X' e' N'
  exact ⟨s₂, o, q' _ q, r⟩

theorem Kx.aloadN (K : Kx E y bytes ml rt l Z R n0 Q) {k : Fin 4} {v : Value} (hd : Dc bytes pc (.aload_n k) 1 pc') (hl : ls[k.val]? = some (.val v)) (hv : v.isRef = true) (k : Wk E h kc kn pc' ls (v :: st)) : Wk E h kc kn pc ls st := by
  obtain ⟨hd, rfl⟩ := hd
  exact K.lift (fun p e s m args below meth c F T locs X eT t q => XS.aloadN X.here F.1 rfl (hb F.2.1 hd) hl hv q) k
theorem Kx.iloadN (K : Kx E y bytes ml rt l Z R n0 Q) {k : Fin 4} {v : Int32} (hd : Dc bytes pc (.iload_n k) 1 pc') (hl : ls[k.val]? = some (.val (.int v))) (k : Wk E h kc kn pc' ls (.int v :: st)) : Wk E h kc kn pc ls st := by
  obtain ⟨hd, rfl⟩ := hd
  exact K.lift (fun p e s m args below meth c F T locs X eT t q => XS.iloadN X.here F.1 rfl (hb F.2.1 hd) hl q) k
theorem Kx.lloadN (K : Kx E y bytes ml rt l Z R n0 Q) {k : Fin 4} {v : Int64} (hd : Dc bytes pc (.lload_n k) 1 pc') (hl : ls[k.val]? = some (.val (.long v))) (k : Wk E h kc kn pc' ls (.long v :: st)) : Wk E h kc kn pc ls st := by
  obtain ⟨hd, rfl⟩ := hd
  exact K.lift (fun p e s m args below meth c F T locs X eT t q => XS.lloadN X.here F.1 rfl (hb F.2.1 hd) hl q) k
theorem Kx.istoreN (K : Kx E y bytes ml rt l Z R n0 Q) {k : Fin 4} {x : Int32} (ls' : Array Slot) (hd : Dc bytes pc (.istore_n k) 1 pc') (hl : storeLocals ls k.val (.int x) = some ls') (k : Wk E h kc kn pc' ls' st) : Wk E h kc kn pc ls (.int x :: st) := by
  obtain ⟨hd, rfl⟩ := hd
  exact K.lift (fun p e s m args below meth c F T locs X eT t q => XS.istoreN X.here F.1 rfl (hb F.2.1 hd) rfl hl q) k
theorem Kx.lstoreN (K : Kx E y bytes ml rt l Z R n0 Q) {k : Fin 4} {x : Int64} (ls' : Array Slot) (hd : Dc bytes pc (.lstore_n k) 1 pc') (hl : storeLocals ls k.val (.long x) = some ls') (k : Wk E h kc kn pc' ls' st) : Wk E h kc kn pc ls (.long x :: st) := by
  obtain ⟨hd, rfl⟩ := hd
  exact K.lift (fun p e s m args below meth c F T locs X eT t q => XS.lstoreN X.here F.1 rfl (hb F.2.1 hd) rfl hl q) k
theorem Kx.astoreN (K : Kx E y bytes ml rt l Z R n0 Q) {k : Fin 4} {x : Value} (ls' : Array Slot) (hd : Dc bytes pc (.astore_n k) 1 pc') (hv : x.isRef = true) (hl : storeLocals ls k.val x = some ls') (k : Wk E h kc kn pc' ls' st) : Wk E h kc kn pc ls (x :: st) := by
  obtain ⟨hd, rfl⟩ := hd
  exact K.lift (fun p e s m args below meth c F T locs X eT t q => XS.astoreN X.here F.1 rfl (hb F.2.1 hd) rfl hv hl q) k
theorem Kx.aload (K : Kx E y bytes ml rt l Z R n0 Q) {k : Nat} {v : Value} (hd : Dc bytes pc (.aload k) 2 pc') (hl : ls[k]? = some (.val v)) (hv : v.isRef = true) (k : Wk E h kc kn pc' ls (v :: st)) : Wk E h kc kn pc ls st := by
  obtain ⟨hd, rfl⟩ := hd
  exact K.lift (fun p e s m args below meth c F T locs X eT t q => XS.aload X.here F.1 rfl (hb F.2.1 hd) hl hv q) k
theorem Kx.iload (K : Kx E y bytes ml rt l Z R n0 Q) {k : Nat} {v : Int32} (hd : Dc bytes pc (.iload k) 2 pc') (hl : ls[k]? = some (.val (.int v))) (k : Wk E h kc kn pc' ls (.int v :: st)) : Wk E h kc kn pc ls st := by
  obtain ⟨hd, rfl⟩ := hd
  exact K.lift (fun p e s m args below meth c F T locs X eT t q => XS.iload X.here F.1 rfl (hb F.2.1 hd) hl q) k
theorem Kx.lload (K : Kx E y bytes ml rt l Z R n0 Q) {k : Nat} {v : Int64} (hd : Dc bytes pc (.lload k) 2 pc') (hl : ls[k]? = some (.val (.long v))) (k : Wk E h kc kn pc' ls (.long v :: st)) : Wk E h kc kn pc ls st := by
  obtain ⟨hd, rfl⟩ := hd
  exact K.lift (fun p e s m args below meth c F T locs X eT t q => XS.lload X.here F.1 rfl (hb F.2.1 hd) hl q) k
theorem Kx.istore (K : Kx E y bytes ml rt l Z R n0 Q) {k : Nat} {x : Int32} (ls' : Array Slot) (hd : Dc bytes pc (.istore k) 2 pc') (hl : storeLocals ls k (.int x) = some ls') (k : Wk E h kc kn pc' ls' st) : Wk E h kc kn pc ls (.int x :: st) := by
  obtain ⟨hd, rfl⟩ := hd
  exact K.lift (fun p e s m args below meth c F T locs X eT t q => XS.istore X.here F.1 rfl (hb F.2.1 hd) rfl hl q) k
theorem Kx.lstore (K : Kx E y bytes ml rt l Z R n0 Q) {k : Nat} {x : Int64} (ls' : Array Slot) (hd : Dc bytes pc (.lstore k) 2 pc') (hl : storeLocals ls k (.long x) = some ls') (k : Wk E h kc kn pc' ls' st) : Wk E h kc kn pc ls (.long x :: st) := by
  obtain ⟨hd, rfl⟩ := hd
  exact K.lift (fun p e s m args below meth c F T locs X eT t q => XS.lstore X.here F.1 rfl (hb F.2.1 hd) rfl hl q) k
theorem Kx.astore (K : Kx E y bytes ml rt l Z R n0 Q) {k : Nat} {x : Value} (ls' : Array Slot) (hd : Dc bytes pc (.astore k) 2 pc') (hv : x.isRef = true) (hl : storeLocals ls k x = some ls') (k : Wk E h kc kn pc' ls' st) : Wk E h kc kn pc ls (x :: st) := by
  obtain ⟨hd, rfl⟩ := hd
  exact K.lift (fun p e s m args below meth c F T locs X eT t q => XS.astore X.here F.1 rfl (hb F.2.1 hd) rfl hv hl q) k
theorem Kx.iinc (K : Kx E y bytes ml rt l Z R n0 Q) {k : Nat} {cst : Int} {x : Int32} (z : Int32) (ls' : Array Slot) (hd : Dc bytes pc (.iinc k cst) 3 pc') (hl : ls[k]? = some (.val (.int x))) (hz : x + Int32.ofInt cst = z) (hl' : storeLocals ls k (.int z) = some ls') (k : Wk E h kc kn pc' ls' st) : Wk E h kc kn pc ls st := by
  obtain ⟨hd, rfl⟩ := hd
  exact K.lift (fun p e s m args below meth c F T locs X eT t q => XS.iinc X.here F.1 rfl (hb F.2.1 hd) hl (by rw [hz]; exact hl') q) k
theorem Kx.iconst (K : Kx E y bytes ml rt l Z R n0 Q) {i : Int} (z : Int32) (hd : Dc bytes pc (.iconst i) 1 pc') (hz : Int32.ofInt i = z) (k : Wk E h kc kn pc' ls (.int z :: st)) : Wk E h kc kn pc ls st := by
  obtain ⟨hd, rfl⟩ := hd
  exact K.lift (fun p e s m args below meth c F T locs X eT t q => XS.iconst X.here F.1 rfl (hb F.2.1 hd) (by rw [hz]; exact q)) k
theorem Kx.lconst (K : Kx E y bytes ml rt l Z R n0 Q) {i : Fin 2} (z : Int64) (hd : Dc bytes pc (.lconst i) 1 pc') (hz : Int64.ofNat i = z) (k : Wk E h kc kn pc' ls (.long z :: st)) : Wk E h kc kn pc ls st := by
  obtain ⟨hd, rfl⟩ := hd
  exact K.lift (fun p e s m args below meth c F T locs X eT t q => XS.lconst X.here F.1 rfl (hb F.2.1 hd) (by rw [hz]; exact q)) k
theorem Kx.bipush (K : Kx E y bytes ml rt l Z R n0 Q) {i : Int} (z : Int32) (hd : Dc bytes pc (.bipush i) 2 pc') (hz : (Int8.ofInt i).toInt32 = z) (k : Wk E h kc kn pc' ls (.int z :: st)) : Wk E h kc kn pc ls st := by
  obtain ⟨hd, rfl⟩ := hd
  exact K.lift (fun p e s m args below meth c F T locs X eT t q => XS.bipush X.here F.1 rfl (hb F.2.1 hd) (by rw [hz]; exact q)) k
theorem Kx.sipush (K : Kx E y bytes ml rt l Z R n0 Q) {i : Int} (z : Int32) (hd : Dc bytes pc (.sipush i) 3 pc') (hz : (Int16.ofInt i).toInt32 = z) (k : Wk E h kc kn pc' ls (.int z :: st)) : Wk E h kc kn pc ls st := by
  obtain ⟨hd, rfl⟩ := hd
  exact K.lift (fun p e s m args below meth c F T locs X eT t q => XS.sipush X.here F.1 rfl (hb F.2.1 hd) (by rw [hz]; exact q)) k
theorem Kx.aconst_null (K : Kx E y bytes ml rt l Z R n0 Q)  (hd : Dc bytes pc .aconst_null 1 pc') (k : Wk E h kc kn pc' ls (.null :: st)) : Wk E h kc kn pc ls st := by
  obtain ⟨hd, rfl⟩ := hd
  exact K.lift (fun p e s m args below meth c F T locs X eT t q => XS.aconstNull X.here F.1 rfl (hb F.2.1 hd) q) k
theorem Kx.iadd (K : Kx E y bytes ml rt l Z R n0 Q) {x y' : Int32} (hd : Dc bytes pc .iadd 1 pc') (k : Wk E h kc kn pc' ls (.int (x + y') :: st)) : Wk E h kc kn pc ls (.int y' :: .int x :: st) := by
  obtain ⟨hd, rfl⟩ := hd
  exact K.lift (fun p e s m args below meth c F T locs X eT t q => XS.iadd X.here F.1 rfl (hb F.2.1 hd) rfl q) k
theorem Kx.isub (K : Kx E y bytes ml rt l Z R n0 Q) {x y' : Int32} (hd : Dc bytes pc .isub 1 pc') (k : Wk E h kc kn pc' ls (.int (x - y') :: st)) : Wk E h kc kn pc ls (.int y' :: .int x :: st) := by
  obtain ⟨hd, rfl⟩ := hd
  exact K.lift (fun p e s m args below meth c F T locs X eT t q => XS.isub X.here F.1 rfl (hb F.2.1 hd) rfl q) k
theorem Kx.imul (K : Kx E y bytes ml rt l Z R n0 Q) {x y' : Int32} (hd : Dc bytes pc .imul 1 pc') (k : Wk E h kc kn pc' ls (.int (x * y') :: st)) : Wk E h kc kn pc ls (.int y' :: .int x :: st) := by
  obtain ⟨hd, rfl⟩ := hd
  exact K.lift (fun p e s m args below meth c F T locs X eT t q => XS.imul X.here F.1 rfl (hb F.2.1 hd) rfl q) k
theorem Kx.iand (K : Kx E y bytes ml rt l Z R n0 Q) {x y' : Int32} (hd : Dc bytes pc .iand 1 pc') (k : Wk E h kc kn pc' ls (.int (x &&& y') :: st)) : Wk E h kc kn pc ls (.int y' :: .int x :: st) := by
  obtain ⟨hd, rfl⟩ := hd
  exact K.lift (fun p e s m args below meth c F T locs X eT t q => XS.iand X.here F.1 rfl (hb F.2.1 hd) rfl q) k
theorem Kx.ior (K : Kx E y bytes ml rt l Z R n0 Q) {x y' : Int32} (hd : Dc bytes pc .ior 1 pc') (k : Wk E h kc kn pc' ls (.int (x ||| y') :: st)) : Wk E h kc kn pc ls (.int y' :: .int x :: st) := by
  obtain ⟨hd, rfl⟩ := hd
  exact K.lift (fun p e s m args below meth c F T locs X eT t q => XS.ior X.here F.1 rfl (hb F.2.1 hd) rfl q) k
theorem Kx.ixor (K : Kx E y bytes ml rt l Z R n0 Q) {x y' : Int32} (hd : Dc bytes pc .ixor 1 pc') (k : Wk E h kc kn pc' ls (.int (x ^^^ y') :: st)) : Wk E h kc kn pc ls (.int y' :: .int x :: st) := by
  obtain ⟨hd, rfl⟩ := hd
  exact K.lift (fun p e s m args below meth c F T locs X eT t q => XS.ixor X.here F.1 rfl (hb F.2.1 hd) rfl q) k
theorem Kx.ishl (K : Kx E y bytes ml rt l Z R n0 Q) {x y' : Int32} (hd : Dc bytes pc .ishl 1 pc') (k : Wk E h kc kn pc' ls (.int (x <<< (y' &&& 31)) :: st)) : Wk E h kc kn pc ls (.int y' :: .int x :: st) := by
  obtain ⟨hd, rfl⟩ := hd
  exact K.lift (fun p e s m args below meth c F T locs X eT t q => XS.ishl X.here F.1 rfl (hb F.2.1 hd) rfl q) k
theorem Kx.ishr (K : Kx E y bytes ml rt l Z R n0 Q) {x y' : Int32} (hd : Dc bytes pc .ishr 1 pc') (k : Wk E h kc kn pc' ls (.int (x >>> (y' &&& 31)) :: st)) : Wk E h kc kn pc ls (.int y' :: .int x :: st) := by
  obtain ⟨hd, rfl⟩ := hd
  exact K.lift (fun p e s m args below meth c F T locs X eT t q => XS.ishr X.here F.1 rfl (hb F.2.1 hd) rfl q) k
theorem Kx.iushr (K : Kx E y bytes ml rt l Z R n0 Q) {x y' : Int32} (hd : Dc bytes pc .iushr 1 pc') (k : Wk E h kc kn pc' ls (.int ((x.toUInt32 >>> (y' &&& 31).toUInt32).toInt32) :: st)) : Wk E h kc kn pc ls (.int y' :: .int x :: st) := by
  obtain ⟨hd, rfl⟩ := hd
  exact K.lift (fun p e s m args below meth c F T locs X eT t q => XS.iushr X.here F.1 rfl (hb F.2.1 hd) rfl q) k
theorem Kx.ladd (K : Kx E y bytes ml rt l Z R n0 Q) {x y' : Int64} (hd : Dc bytes pc .ladd 1 pc') (k : Wk E h kc kn pc' ls (.long (x + y') :: st)) : Wk E h kc kn pc ls (.long y' :: .long x :: st) := by
  obtain ⟨hd, rfl⟩ := hd
  exact K.lift (fun p e s m args below meth c F T locs X eT t q => XS.ladd X.here F.1 rfl (hb F.2.1 hd) rfl q) k
theorem Kx.lsub (K : Kx E y bytes ml rt l Z R n0 Q) {x y' : Int64} (hd : Dc bytes pc .lsub 1 pc') (k : Wk E h kc kn pc' ls (.long (x - y') :: st)) : Wk E h kc kn pc ls (.long y' :: .long x :: st) := by
  obtain ⟨hd, rfl⟩ := hd
  exact K.lift (fun p e s m args below meth c F T locs X eT t q => XS.lsub X.here F.1 rfl (hb F.2.1 hd) rfl q) k
theorem Kx.lmul (K : Kx E y bytes ml rt l Z R n0 Q) {x y' : Int64} (hd : Dc bytes pc .lmul 1 pc') (k : Wk E h kc kn pc' ls (.long (x * y') :: st)) : Wk E h kc kn pc ls (.long y' :: .long x :: st) := by
  obtain ⟨hd, rfl⟩ := hd
  exact K.lift (fun p e s m args below meth c F T locs X eT t q => XS.lmul X.here F.1 rfl (hb F.2.1 hd) rfl q) k
theorem Kx.land (K : Kx E y bytes ml rt l Z R n0 Q) {x y' : Int64} (hd : Dc bytes pc .land 1 pc') (k : Wk E h kc kn pc' ls (.long (x &&& y') :: st)) : Wk E h kc kn pc ls (.long y' :: .long x :: st) := by
  obtain ⟨hd, rfl⟩ := hd
  exact K.lift (fun p e s m args below meth c F T locs X eT t q => XS.land X.here F.1 rfl (hb F.2.1 hd) rfl q) k
theorem Kx.lor (K : Kx E y bytes ml rt l Z R n0 Q) {x y' : Int64} (hd : Dc bytes pc .lor 1 pc') (k : Wk E h kc kn pc' ls (.long (x ||| y') :: st)) : Wk E h kc kn pc ls (.long y' :: .long x :: st) := by
  obtain ⟨hd, rfl⟩ := hd
  exact K.lift (fun p e s m args below meth c F T locs X eT t q => XS.lor X.here F.1 rfl (hb F.2.1 hd) rfl q) k
theorem Kx.lxor (K : Kx E y bytes ml rt l Z R n0 Q) {x y' : Int64} (hd : Dc bytes pc .lxor 1 pc') (k : Wk E h kc kn pc' ls (.long (x ^^^ y') :: st)) : Wk E h kc kn pc ls (.long y' :: .long x :: st) := by
  obtain ⟨hd, rfl⟩ := hd
  exact K.lift (fun p e s m args below meth c F T locs X eT t q => XS.lxor X.here F.1 rfl (hb F.2.1 hd) rfl q) k
theorem Kx.lshl (K : Kx E y bytes ml rt l Z R n0 Q) {x : Int64} {y' : Int32} (hd : Dc bytes pc .lshl 1 pc') (k : Wk E h kc kn pc' ls (.long (x <<< (y' &&& 63).toInt64) :: st)) : Wk E h kc kn pc ls (.int y' :: .long x :: st) := by
  obtain ⟨hd, rfl⟩ := hd
  exact K.lift (fun p e s m args below meth c F T locs X eT t q => XS.lshl X.here F.1 rfl (hb F.2.1 hd) rfl q) k
theorem Kx.lshr (K : Kx E y bytes ml rt l Z R n0 Q) {x : Int64} {y' : Int32} (hd : Dc bytes pc .lshr 1 pc') (k : Wk E h kc kn pc' ls (.long (x >>> (y' &&& 63).toInt64) :: st)) : Wk E h kc kn pc ls (.int y' :: .long x :: st) := by
  obtain ⟨hd, rfl⟩ := hd
  exact K.lift (fun p e s m args below meth c F T locs X eT t q => XS.lshr X.here F.1 rfl (hb F.2.1 hd) rfl q) k
theorem Kx.lushr (K : Kx E y bytes ml rt l Z R n0 Q) {x : Int64} {y' : Int32} (hd : Dc bytes pc .lushr 1 pc') (k : Wk E h kc kn pc' ls (.long ((x.toUInt64 >>> (y' &&& 63).toInt64.toUInt64).toInt64) :: st)) : Wk E h kc kn pc ls (.int y' :: .long x :: st) := by
  obtain ⟨hd, rfl⟩ := hd
  exact K.lift (fun p e s m args below meth c F T locs X eT t q => XS.lushr X.here F.1 rfl (hb F.2.1 hd) rfl q) k
theorem Kx.idiv (K : Kx E y bytes ml rt l Z R n0 Q) {x y' : Int32} (hd : Dc bytes pc .idiv 1 pc') (hy : y' ≠ 0) (k : Wk E h kc kn pc' ls (.int (x / y') :: st)) : Wk E h kc kn pc ls (.int y' :: .int x :: st) := by
  obtain ⟨hd, rfl⟩ := hd
  exact K.lift (fun p e s m args below meth c F T locs X eT t q => XS.idiv X.here F.1 rfl (hb F.2.1 hd) rfl hy q) k
theorem Kx.irem (K : Kx E y bytes ml rt l Z R n0 Q) {x y' : Int32} (hd : Dc bytes pc .irem 1 pc') (hy : y' ≠ 0) (k : Wk E h kc kn pc' ls (.int (x % y') :: st)) : Wk E h kc kn pc ls (.int y' :: .int x :: st) := by
  obtain ⟨hd, rfl⟩ := hd
  exact K.lift (fun p e s m args below meth c F T locs X eT t q => RoadKit.iremM X F.1 rfl (hb F.2.1 hd) rfl hy q) k
theorem Kx.ldiv (K : Kx E y bytes ml rt l Z R n0 Q) {x y' : Int64} (hd : Dc bytes pc .ldiv 1 pc') (hy : y' ≠ 0) (k : Wk E h kc kn pc' ls (.long (x / y') :: st)) : Wk E h kc kn pc ls (.long y' :: .long x :: st) := by
  obtain ⟨hd, rfl⟩ := hd
  exact K.lift (fun p e s m args below meth c F T locs X eT t q => XS.ldiv X.here F.1 rfl (hb F.2.1 hd) rfl hy q) k
theorem Kx.lrem (K : Kx E y bytes ml rt l Z R n0 Q) {x y' : Int64} (hd : Dc bytes pc .lrem 1 pc') (hy : y' ≠ 0) (k : Wk E h kc kn pc' ls (.long (x % y') :: st)) : Wk E h kc kn pc ls (.long y' :: .long x :: st) := by
  obtain ⟨hd, rfl⟩ := hd
  exact K.lift (fun p e s m args below meth c F T locs X eT t q => XS.lrem X.here F.1 rfl (hb F.2.1 hd) rfl hy (by rw [lrem_mod]; exact q)) k
theorem Kx.ineg (K : Kx E y bytes ml rt l Z R n0 Q) {x : Int32} (hd : Dc bytes pc .ineg 1 pc') (k : Wk E h kc kn pc' ls (.int (-x) :: st)) : Wk E h kc kn pc ls (.int x :: st) := by
  obtain ⟨hd, rfl⟩ := hd
  exact K.lift (fun p e s m args below meth c F T locs X eT t q => XS.ineg X.here F.1 rfl (hb F.2.1 hd) rfl q) k
theorem Kx.lneg (K : Kx E y bytes ml rt l Z R n0 Q) {x : Int64} (hd : Dc bytes pc .lneg 1 pc') (k : Wk E h kc kn pc' ls (.long (-x) :: st)) : Wk E h kc kn pc ls (.long x :: st) := by
  obtain ⟨hd, rfl⟩ := hd
  exact K.lift (fun p e s m args below meth c F T locs X eT t q => XS.lneg X.here F.1 rfl (hb F.2.1 hd) rfl q) k
theorem Kx.i2l (K : Kx E y bytes ml rt l Z R n0 Q) {x : Int32} (hd : Dc bytes pc .i2l 1 pc') (k : Wk E h kc kn pc' ls (.long (x.toInt64) :: st)) : Wk E h kc kn pc ls (.int x :: st) := by
  obtain ⟨hd, rfl⟩ := hd
  exact K.lift (fun p e s m args below meth c F T locs X eT t q => XS.i2l X.here F.1 rfl (hb F.2.1 hd) rfl q) k
theorem Kx.l2i (K : Kx E y bytes ml rt l Z R n0 Q) {x : Int64} (hd : Dc bytes pc .l2i 1 pc') (k : Wk E h kc kn pc' ls (.int (x.toInt32) :: st)) : Wk E h kc kn pc ls (.long x :: st) := by
  obtain ⟨hd, rfl⟩ := hd
  exact K.lift (fun p e s m args below meth c F T locs X eT t q => XS.l2i X.here F.1 rfl (hb F.2.1 hd) rfl q) k
theorem Kx.i2b (K : Kx E y bytes ml rt l Z R n0 Q) {x : Int32} (hd : Dc bytes pc .i2b 1 pc') (k : Wk E h kc kn pc' ls (.int (x.toInt8.toInt32) :: st)) : Wk E h kc kn pc ls (.int x :: st) := by
  obtain ⟨hd, rfl⟩ := hd
  exact K.lift (fun p e s m args below meth c F T locs X eT t q => XS.i2b X.here F.1 rfl (hb F.2.1 hd) rfl q) k
theorem Kx.i2c (K : Kx E y bytes ml rt l Z R n0 Q) {x : Int32} (hd : Dc bytes pc .i2c 1 pc') (k : Wk E h kc kn pc' ls (.int (x.toUInt32.toUInt16.toUInt32.toInt32) :: st)) : Wk E h kc kn pc ls (.int x :: st) := by
  obtain ⟨hd, rfl⟩ := hd
  exact K.lift (fun p e s m args below meth c F T locs X eT t q => XS.i2c X.here F.1 rfl (hb F.2.1 hd) rfl q) k
theorem Kx.i2s (K : Kx E y bytes ml rt l Z R n0 Q) {x : Int32} (hd : Dc bytes pc .i2s 1 pc') (k : Wk E h kc kn pc' ls (.int (x.toInt16.toInt32) :: st)) : Wk E h kc kn pc ls (.int x :: st) := by
  obtain ⟨hd, rfl⟩ := hd
  exact K.lift (fun p e s m args below meth c F T locs X eT t q => XS.i2s X.here F.1 rfl (hb F.2.1 hd) rfl q) k
theorem Kx.dup (K : Kx E y bytes ml rt l Z R n0 Q) {x : Value} (hd : Dc bytes pc .dup 1 pc') (hc : x.category = 1) (k : Wk E h kc kn pc' ls (x :: x :: st)) : Wk E h kc kn pc ls (x :: st) := by
  obtain ⟨hd, rfl⟩ := hd
  exact K.lift (fun p e s m args below meth c F T locs X eT t q => XS.dup X.here F.1 rfl (hb F.2.1 hd) rfl hc q) k
theorem Kx.pop (K : Kx E y bytes ml rt l Z R n0 Q) {x : Value} (hd : Dc bytes pc .pop 1 pc') (hc : x.category = 1) (k : Wk E h kc kn pc' ls st) : Wk E h kc kn pc ls (x :: st) := by
  obtain ⟨hd, rfl⟩ := hd
  exact K.lift (fun p e s m args below meth c F T locs X eT t q => XS.pop X.here F.1 rfl (hb F.2.1 hd) rfl hc q) k
theorem Kx.dup_x1 (K : Kx E y bytes ml rt l Z R n0 Q) {x x' : Value} (hd : Dc bytes pc .dup_x1 1 pc') (hc : x.category = 1) (hc' : x'.category = 1) (k : Wk E h kc kn pc' ls (x :: x' :: x :: st)) : Wk E h kc kn pc ls (x :: x' :: st) := by
  obtain ⟨hd, rfl⟩ := hd
  exact K.lift (fun p e s m args below meth c F T locs X eT t q => XS.dupX1 X.here F.1 rfl (hb F.2.1 hd) rfl hc hc' q) k
theorem Kx.dup2 (K : Kx E y bytes ml rt l Z R n0 Q) {x x' : Value} (hd : Dc bytes pc .dup2 1 pc') (hc : x.category = 1) (hc' : x'.category = 1) (k : Wk E h kc kn pc' ls (x :: x' :: x :: x' :: st)) : Wk E h kc kn pc ls (x :: x' :: st) := by
  obtain ⟨hd, rfl⟩ := hd
  exact K.lift (fun p e s m args below meth c F T locs X eT t q => Jvm.Free.XT.dup2 X.here F.1 rfl (hb F.2.1 hd) rfl hc hc' q) k
theorem Kx.ldcI (K : Kx E y bytes ml rt l Z R n0 Q) {i : Nat} {v : Int32} (hd : Dc bytes pc (.ldc i) 2 pc') (w : (Jvm.Cond.constant y.cls i v).before a0 Z = true) (k : Wk E h kc kn pc' ls (.int v :: st)) : Wk E h kc kn pc ls st := by
  obtain ⟨hd, rfl⟩ := hd
  exact K.lift (fun p e s m args below meth c F T locs X eT t q => X.ldcI F.1 F.2.2.2.2.2.2.1 (mvT F.2.2.2.2.2.1 w) rfl (hb F.2.1 hd) q) k
theorem Kx.ldc2J (K : Kx E y bytes ml rt l Z R n0 Q) {i : Nat} {v : Int64} (hd : Dc bytes pc (.ldc2_w i) 3 pc') (w : (Jvm.Cond.constantLong y.cls i v).before a0 Z = true) (k : Wk E h kc kn pc' ls (.long v :: st)) : Wk E h kc kn pc ls st := by
  obtain ⟨hd, rfl⟩ := hd
  exact K.lift (fun p e s m args below meth c F T locs X eT t q => X.ldc2J F.1 F.2.2.2.2.2.2.1 (mvT F.2.2.2.2.2.1 w) rfl (hb F.2.1 hd) q) k
theorem Kx.goto (K : Kx E y bytes ml rt l Z R n0 Q) {o : Int} (hd : Db bytes pc (.goto o) o pc1 pc2) (k : Wk E h kc kn pc2 ls st) : Wk E h kc kn pc ls st := by
  obtain ⟨hd, -, h0, h1⟩ := hd
  exact K.lift (fun p e s m args below meth c F T locs X eT t q => XS.goto X.here F.1 rfl rfl (hb F.2.1 hd) h0 h1 q) k
theorem Kx.ic_eq (K : Kx E y bytes ml rt l Z R n0 Q) {o : Int} {x y' : Int32} (hd : Db bytes pc (.if_icmp .eq o) o pc1 pc2) (k1 : x = y' → Wk E h kc kn pc2 ls st) (k2 : ¬ x = y' → Wk E h kc kn pc1 ls st) : Wk E h kc kn pc ls (.int y' :: .int x :: st) := by
  obtain ⟨hd, rfl, h0, h1⟩ := hd
  by_cases u : x = y'
  · exact K.lift (fun p e s m args below meth c F T locs X eT t q => XS.icmpYes X.here F.1 rfl rfl (hb F.2.1 hd) rfl (teq u).1 h0 h1 q) (k1 u)
  · exact K.lift (fun p e s m args below meth c F T locs X eT t q => XS.icmpNo X.here F.1 rfl (hb F.2.1 hd) rfl (feq u).1 q) (k2 u)
theorem Kx.if_eq (K : Kx E y bytes ml rt l Z R n0 Q) {o : Int} {x : Int32} (hd : Db bytes pc (.ifCond .eq o) o pc1 pc2) (k1 : x = 0 → Wk E h kc kn pc2 ls st) (k2 : ¬ x = 0 → Wk E h kc kn pc1 ls st) : Wk E h kc kn pc ls (.int x :: st) := by
  obtain ⟨hd, rfl, h0, h1⟩ := hd
  by_cases u : x = 0
  · exact K.lift (fun p e s m args below meth c F T locs X eT t q => XS.ifYes X.here F.1 rfl rfl (hb F.2.1 hd) rfl ((if0 _ _).trans (teq u).1) h0 h1 q) (k1 u)
  · exact K.lift (fun p e s m args below meth c F T locs X eT t q => XS.ifNo X.here F.1 rfl (hb F.2.1 hd) rfl ((if0 _ _).trans (feq u).1) q) (k2 u)
theorem Kx.ic_ne (K : Kx E y bytes ml rt l Z R n0 Q) {o : Int} {x y' : Int32} (hd : Db bytes pc (.if_icmp .ne o) o pc1 pc2) (k1 : x = y' → Wk E h kc kn pc1 ls st) (k2 : ¬ x = y' → Wk E h kc kn pc2 ls st) : Wk E h kc kn pc ls (.int y' :: .int x :: st) := by
  obtain ⟨hd, rfl, h0, h1⟩ := hd
  by_cases u : x = y'
  · exact K.lift (fun p e s m args below meth c F T locs X eT t q => XS.icmpNo X.here F.1 rfl (hb F.2.1 hd) rfl (teq u).2 q) (k1 u)
  · exact K.lift (fun p e s m args below meth c F T locs X eT t q => XS.icmpYes X.here F.1 rfl rfl (hb F.2.1 hd) rfl (feq u).2 h0 h1 q) (k2 u)
theorem Kx.if_ne (K : Kx E y bytes ml rt l Z R n0 Q) {o : Int} {x : Int32} (hd : Db bytes pc (.ifCond .ne o) o pc1 pc2) (k1 : x = 0 → Wk E h kc kn pc1 ls st) (k2 : ¬ x = 0 → Wk E h kc kn pc2 ls st) : Wk E h kc kn pc ls (.int x :: st) := by
  obtain ⟨hd, rfl, h0, h1⟩ := hd
  by_cases u : x = 0
  · exact K.lift (fun p e s m args below meth c F T locs X eT t q => XS.ifNo X.here F.1 rfl (hb F.2.1 hd) rfl ((if0 _ _).trans (teq u).2) q) (k1 u)
  · exact K.lift (fun p e s m args below meth c F T locs X eT t q => XS.ifYes X.here F.1 rfl rfl (hb F.2.1 hd) rfl ((if0 _ _).trans (feq u).2) h0 h1 q) (k2 u)
theorem Kx.ic_lt (K : Kx E y bytes ml rt l Z R n0 Q) {o : Int} {x y' : Int32} (hd : Db bytes pc (.if_icmp .lt o) o pc1 pc2) (k1 : x < y' → Wk E h kc kn pc2 ls st) (k2 : ¬ x < y' → Wk E h kc kn pc1 ls st) : Wk E h kc kn pc ls (.int y' :: .int x :: st) := by
  obtain ⟨hd, rfl, h0, h1⟩ := hd
  by_cases u : x < y'
  · exact K.lift (fun p e s m args below meth c F T locs X eT t q => XS.icmpYes X.here F.1 rfl rfl (hb F.2.1 hd) rfl (tlt u).1 h0 h1 q) (k1 u)
  · exact K.lift (fun p e s m args below meth c F T locs X eT t q => XS.icmpNo X.here F.1 rfl (hb F.2.1 hd) rfl (flt u).1 q) (k2 u)
theorem Kx.if_lt (K : Kx E y bytes ml rt l Z R n0 Q) {o : Int} {x : Int32} (hd : Db bytes pc (.ifCond .lt o) o pc1 pc2) (k1 : x < 0 → Wk E h kc kn pc2 ls st) (k2 : ¬ x < 0 → Wk E h kc kn pc1 ls st) : Wk E h kc kn pc ls (.int x :: st) := by
  obtain ⟨hd, rfl, h0, h1⟩ := hd
  by_cases u : x < 0
  · exact K.lift (fun p e s m args below meth c F T locs X eT t q => XS.ifYes X.here F.1 rfl rfl (hb F.2.1 hd) rfl ((if0 _ _).trans (tlt u).1) h0 h1 q) (k1 u)
  · exact K.lift (fun p e s m args below meth c F T locs X eT t q => XS.ifNo X.here F.1 rfl (hb F.2.1 hd) rfl ((if0 _ _).trans (flt u).1) q) (k2 u)
theorem Kx.ic_ge (K : Kx E y bytes ml rt l Z R n0 Q) {o : Int} {x y' : Int32} (hd : Db bytes pc (.if_icmp .ge o) o pc1 pc2) (k1 : x < y' → Wk E h kc kn pc1 ls st) (k2 : ¬ x < y' → Wk E h kc kn pc2 ls st) : Wk E h kc kn pc ls (.int y' :: .int x :: st) := by
  obtain ⟨hd, rfl, h0, h1⟩ := hd
  by_cases u : x < y'
  · exact K.lift (fun p e s m args below meth c F T locs X eT t q => XS.icmpNo X.here F.1 rfl (hb F.2.1 hd) rfl (tlt u).2.1 q) (k1 u)
  · exact K.lift (fun p e s m args below meth c F T locs X eT t q => XS.icmpYes X.here F.1 rfl rfl (hb F.2.1 hd) rfl (flt u).2.1 h0 h1 q) (k2 u)
theorem Kx.if_ge (K : Kx E y bytes ml rt l Z R n0 Q) {o : Int} {x : Int32} (hd : Db bytes pc (.ifCond .ge o) o pc1 pc2) (k1 : x < 0 → Wk E h kc kn pc1 ls st) (k2 : ¬ x < 0 → Wk E h kc kn pc2 ls st) : Wk E h kc kn pc ls (.int x :: st) := by
  obtain ⟨hd, rfl, h0, h1⟩ := hd
  by_cases u : x < 0
  · exact K.lift (fun p e s m args below meth c F T locs X eT t q => XS.ifNo X.here F.1 rfl (hb F.2.1 hd) rfl ((if0 _ _).trans (tlt u).2.1) q) (k1 u)
  · exact K.lift (fun p e s m args below meth c F T locs X eT t q => XS.ifYes X.here F.1 rfl rfl (hb F.2.1 hd) rfl ((if0 _ _).trans (flt u).2.1) h0 h1 q) (k2 u)
theorem Kx.ic_gt (K : Kx E y bytes ml rt l Z R n0 Q) {o : Int} {x y' : Int32} (hd : Db bytes pc (.if_icmp .gt o) o pc1 pc2) (k1 : y' < x → Wk E h kc kn pc2 ls st) (k2 : ¬ y' < x → Wk E h kc kn pc1 ls st) : Wk E h kc kn pc ls (.int y' :: .int x :: st) := by
  obtain ⟨hd, rfl, h0, h1⟩ := hd
  by_cases u : y' < x
  · exact K.lift (fun p e s m args below meth c F T locs X eT t q => XS.icmpYes X.here F.1 rfl rfl (hb F.2.1 hd) rfl (tlt u).2.2.1 h0 h1 q) (k1 u)
  · exact K.lift (fun p e s m args below meth c F T locs X eT t q => XS.icmpNo X.here F.1 rfl (hb F.2.1 hd) rfl (flt u).2.2.1 q) (k2 u)
theorem Kx.if_gt (K : Kx E y bytes ml rt l Z R n0 Q) {o : Int} {x : Int32} (hd : Db bytes pc (.ifCond .gt o) o pc1 pc2) (k1 : 0 < x → Wk E h kc kn pc2 ls st) (k2 : ¬ 0 < x → Wk E h kc kn pc1 ls st) : Wk E h kc kn pc ls (.int x :: st) := by
  obtain ⟨hd, rfl, h0, h1⟩ := hd
  by_cases u : 0 < x
  · exact K.lift (fun p e s m args below meth c F T locs X eT t q => XS.ifYes X.here F.1 rfl rfl (hb F.2.1 hd) rfl ((if0 _ _).trans (tlt u).2.2.1) h0 h1 q) (k1 u)
  · exact K.lift (fun p e s m args below meth c F T locs X eT t q => XS.ifNo X.here F.1 rfl (hb F.2.1 hd) rfl ((if0 _ _).trans (flt u).2.2.1) q) (k2 u)
theorem Kx.ic_le (K : Kx E y bytes ml rt l Z R n0 Q) {o : Int} {x y' : Int32} (hd : Db bytes pc (.if_icmp .le o) o pc1 pc2) (k1 : y' < x → Wk E h kc kn pc1 ls st) (k2 : ¬ y' < x → Wk E h kc kn pc2 ls st) : Wk E h kc kn pc ls (.int y' :: .int x :: st) := by
  obtain ⟨hd, rfl, h0, h1⟩ := hd
  by_cases u : y' < x
  · exact K.lift (fun p e s m args below meth c F T locs X eT t q => XS.icmpNo X.here F.1 rfl (hb F.2.1 hd) rfl (tlt u).2.2.2 q) (k1 u)
  · exact K.lift (fun p e s m args below meth c F T locs X eT t q => XS.icmpYes X.here F.1 rfl rfl (hb F.2.1 hd) rfl (flt u).2.2.2 h0 h1 q) (k2 u)
theorem Kx.if_le (K : Kx E y bytes ml rt l Z R n0 Q) {o : Int} {x : Int32} (hd : Db bytes pc (.ifCond .le o) o pc1 pc2) (k1 : 0 < x → Wk E h kc kn pc1 ls st) (k2 : ¬ 0 < x → Wk E h kc kn pc2 ls st) : Wk E h kc kn pc ls (.int x :: st) := by
  obtain ⟨hd, rfl, h0, h1⟩ := hd
  by_cases u : 0 < x
  · exact K.lift (fun p e s m args below meth c F T locs X eT t q => XS.ifNo X.here F.1 rfl (hb F.2.1 hd) rfl ((if0 _ _).trans (tlt u).2.2.2) q) (k1 u)
  · exact K.lift (fun p e s m args below meth c F T locs X eT t q => XS.ifYes X.here F.1 rfl rfl (hb F.2.1 hd) rfl ((if0 _ _).trans (flt u).2.2.2) h0 h1 q) (k2 u)
theorem Kx.lcmp (K : Kx E y bytes ml rt l Z R n0 Q) {x y' : Int64} (hd : Dc bytes pc .lcmp 1 pc') (k : Wk E h kc kn pc' ls (.int (lcmpW x y') :: st)) : Wk E h kc kn pc ls (.long y' :: .long x :: st) := by
  obtain ⟨hd, rfl⟩ := hd
  exact K.lift (fun p e s m args below meth c F T locs X eT t q => XS.lcmp X.here F.1 rfl (hb F.2.1 hd) rfl q) k
theorem Kx.lc_eq (K : Kx E y bytes ml rt l Z R n0 Q) {o : Int} {x y' : Int64} {pcm : Nat} (hd0 : Dc bytes pc .lcmp 1 pcm) (hd : Db bytes pcm (.ifCond .eq o) o pc1 pc2) (k1 : x = y' → Wk E h kc kn pc2 ls st) (k2 : ¬ x = y' → Wk E h kc kn pc1 ls st) : Wk E h kc kn pc ls (.long y' :: .long x :: st) :=
  K.lcmp hd0 (K.if_eq hd (fun u => k1 ((lw_eq x y').mp u)) (fun u => k2 (fun v => u ((lw_eq x y').mpr v))))
theorem Kx.lc_ne (K : Kx E y bytes ml rt l Z R n0 Q) {o : Int} {x y' : Int64} {pcm : Nat} (hd0 : Dc bytes pc .lcmp 1 pcm) (hd : Db bytes pcm (.ifCond .ne o) o pc1 pc2) (k1 : x = y' → Wk E h kc kn pc1 ls st) (k2 : ¬ x = y' → Wk E h kc kn pc2 ls st) : Wk E h kc kn pc ls (.long y' :: .long x :: st) :=
  K.lcmp hd0 (K.if_ne hd (fun u => k1 ((lw_eq x y').mp u)) (fun u => k2 (fun v => u ((lw_eq x y').mpr v))))
theorem Kx.lc_lt (K : Kx E y bytes ml rt l Z R n0 Q) {o : Int} {x y' : Int64} {pcm : Nat} (hd0 : Dc bytes pc .lcmp 1 pcm) (hd : Db bytes pcm (.ifCond .lt o) o pc1 pc2) (k1 : x < y' → Wk E h kc kn pc2 ls st) (k2 : ¬ x < y' → Wk E h kc kn pc1 ls st) : Wk E h kc kn pc ls (.long y' :: .long x :: st) :=
  K.lcmp hd0 (K.if_lt hd (fun u => k1 ((lw_lt x y').mp u)) (fun u => k2 (fun v => u ((lw_lt x y').mpr v))))
theorem Kx.lc_ge (K : Kx E y bytes ml rt l Z R n0 Q) {o : Int} {x y' : Int64} {pcm : Nat} (hd0 : Dc bytes pc .lcmp 1 pcm) (hd : Db bytes pcm (.ifCond .ge o) o pc1 pc2) (k1 : x < y' → Wk E h kc kn pc1 ls st) (k2 : ¬ x < y' → Wk E h kc kn pc2 ls st) : Wk E h kc kn pc ls (.long y' :: .long x :: st) :=
  K.lcmp hd0 (K.if_ge hd (fun u => k1 ((lw_lt x y').mp u)) (fun u => k2 (fun v => u ((lw_lt x y').mpr v))))
theorem Kx.lc_gt (K : Kx E y bytes ml rt l Z R n0 Q) {o : Int} {x y' : Int64} {pcm : Nat} (hd0 : Dc bytes pc .lcmp 1 pcm) (hd : Db bytes pcm (.ifCond .gt o) o pc1 pc2) (k1 : y' < x → Wk E h kc kn pc2 ls st) (k2 : ¬ y' < x → Wk E h kc kn pc1 ls st) : Wk E h kc kn pc ls (.long y' :: .long x :: st) :=
  K.lcmp hd0 (K.if_gt hd (fun u => k1 ((lw_gt x y').mp u)) (fun u => k2 (fun v => u ((lw_gt x y').mpr v))))
theorem Kx.lc_le (K : Kx E y bytes ml rt l Z R n0 Q) {o : Int} {x y' : Int64} {pcm : Nat} (hd0 : Dc bytes pc .lcmp 1 pcm) (hd : Db bytes pcm (.ifCond .le o) o pc1 pc2) (k1 : y' < x → Wk E h kc kn pc1 ls st) (k2 : ¬ y' < x → Wk E h kc kn pc2 ls st) : Wk E h kc kn pc ls (.long y' :: .long x :: st) :=
  K.lcmp hd0 (K.if_le hd (fun u => k1 ((lw_gt x y').mp u)) (fun u => k2 (fun v => u ((lw_gt x y').mpr v))))
theorem Kx.ifnull_null (K : Kx E y bytes ml rt l Z R n0 Q) {o : Int} (hd : Db bytes pc (.ifnull o) o pc1 pc2) (k : Wk E h kc kn pc2 ls st) : Wk E h kc kn pc ls (.null :: st) := by
  obtain ⟨hd, -, h0, h1⟩ := hd
  exact K.lift (fun p e s m args below meth c F T locs X eT t q => XS.ifnullYes X.here F.1 rfl rfl (hb F.2.1 hd) rfl h0 h1 q) k
theorem Kx.ifnull_ref (K : Kx E y bytes ml rt l Z R n0 Q) {o : Int} (hd : Db bytes pc (.ifnull o) o pc1 pc2) (k : Wk E h kc kn pc1 ls st) : Wk E h kc kn pc ls (.ref a :: st) := by
  obtain ⟨hd, rfl, h0, h1⟩ := hd
  exact K.lift (fun p e s m args below meth c F T locs X eT t q => XS.ifnullNo X.here F.1 rfl (hb F.2.1 hd) rfl q) k
theorem Kx.ifnonnull_ref (K : Kx E y bytes ml rt l Z R n0 Q) {o : Int} (hd : Db bytes pc (.ifnonnull o) o pc1 pc2) (k : Wk E h kc kn pc2 ls st) : Wk E h kc kn pc ls (.ref a :: st) := by
  obtain ⟨hd, -, h0, h1⟩ := hd
  exact K.lift (fun p e s m args below meth c F T locs X eT t q => XS.ifnonnullYes X.here F.1 rfl rfl (hb F.2.1 hd) rfl h0 h1 q) k
theorem Kx.ifnonnull_null (K : Kx E y bytes ml rt l Z R n0 Q) {o : Int} (hd : Db bytes pc (.ifnonnull o) o pc1 pc2) (k : Wk E h kc kn pc1 ls st) : Wk E h kc kn pc ls (.null :: st) := by
  obtain ⟨hd, rfl, h0, h1⟩ := hd
  exact K.lift (fun p e s m args below meth c F T locs X eT t q => XS.ifnonnullNo X.here F.1 rfl (hb F.2.1 hd) rfl q) k
theorem Kx.ldcF (K : Kx E y bytes ml rt l Z R n0 Q) {i : Nat} {v : UInt32} (hd : Dc bytes pc (.ldc i) 2 pc') (w : (Jvm.Cond.constantFloat y.cls i v).before a0 Z = true) (k : Wk E h kc kn pc' ls (.float v :: st)) : Wk E h kc kn pc ls st := by
  obtain ⟨hd, rfl⟩ := hd
  exact K.lift (fun p e s m args below meth c F T locs X eT t q => X.ldcFloatC F.1 F.2.2.2.2.2.2.1 (mvT F.2.2.2.2.2.1 w) (g := mkF m pc ls st) rfl (hb F.2.1 hd) t q) k
/-- an array: its kind, its length, what each place holds -/
def Ia (Z : State) (h : Heap) (a : Addr) (ty : FieldType) (N : Int32) (f : Int32 → Value) : Prop := ∃ c : Cell, Arr Z h a c ty ∧ c.slots.size = N.toNatClampNeg ∧ ¬ N < 0 ∧ ∀ j : Int32, ¬ j < 0 → j < N → c.slots[j.toNatClampNeg]? = some (f j)
theorem Ia.lt {ty : FieldType} {N : Int32} {f : Int32 → Value} (F : Ia Z h a ty N f) : a < h.size := by obtain ⟨c, A, -⟩ := F; exact A.lt
theorem Ia.nn {ty : FieldType} {N : Int32} {f : Int32 → Value} (F : Ia Z h a ty N f) : ¬ N < 0 := by obtain ⟨c, -, -, q, -⟩ := F; exact q
theorem Ia.ext {ty : FieldType} {N : Int32} {f : Int32 → Value} (F : Ia Z h a ty N f) (X : Ext h h') : Ia Z h' a ty N f := by obtain ⟨c, A, r⟩ := F; exact ⟨c, A.ext X, r⟩
theorem Ia.other {ty : FieldType} {N : Int32} {f : Int32 → Value} {sl : Nat} {v : Value} (F : Ia Z h b ty N f) (W : Wr h h' a sl v) (q : b ≠ a) : Ia Z h' b ty N f := by obtain ⟨c, A, r⟩ := F; exact ⟨c, A.other W q, r⟩
theorem Ia.keep {ty : FieldType} {N : Int32} {f : Int32 → Value} {ws : List Addr} (F : Ia Z h a ty N f) (K : Keep h h' ws) (q : a ∉ ws) : Ia Z h' a ty N f := by obtain ⟨c, A, r⟩ := F; exact ⟨c, ⟨K.2.1 a c A.1 q, A.2⟩, r⟩
theorem Ia.congr {ty : FieldType} {N : Int32} {f g : Int32 → Value} (F : Ia Z h a ty N f) (q : ∀ j : Int32, ¬ j < 0 → j < N → f j = g j) : Ia Z h a ty N g := by
  obtain ⟨c, A, r1, r2, r3⟩ := F
  exact ⟨c, A, r1, r2, fun j h1 h2 => by rw [r3 j h1 h2, q j h1 h2]⟩
theorem Ia.set {ty : FieldType} {N j : Int32} {f : Int32 → Value} {v : Value} (F : Ia Z h a ty N f) (W : Wr h h' a j.toNatClampNeg v) (hj : ¬ j < 0) : Ia Z h' a ty N (fun k => if k = j then v else f k) := by
  obtain ⟨c, A, S, M, G⟩ := F
  refine ⟨_, A.same W, by rw [sz_set]; exact S, M, fun k h1 h2 => ?_⟩
  show _ = some (if k = j then v else f k)
  by_cases u : k = j
  · rw [if_pos u]; exact get_hit (inb_of S (u ▸ ⟨h1, h2⟩)) u
  · rw [if_neg u, get_miss hj h1 u]; exact G k h1 h2
theorem Ia.new {ty : FieldType} {N : Int32} {k : ClassId} (A : Arr Z h a (newA k ty N) ty) (q : ¬ N < 0) : Ia Z h a ty N (fun _ => defaultValue ty) :=
  ⟨_, A, sz_new _ _ _, q, fun j h1 h2 => get_new (by have := inb_of (sz_new k ty N) ⟨h1, h2⟩; rw [sz_new] at this; exact this)⟩
theorem Kx.getF (K : Kx E y bytes ml rt l Z R n0 Q) {i : Nat} {O n d : String} {v : Value} (hd : Dc bytes pc (.getfield i) 3 pc') (w : (Jvm.Cond.fieldLink y.cls i O n d).before a0 Z = true) (F : Fld Z h a O n d v) (k : Wk E h kc kn pc' ls (v :: st)) : Wk E h kc kn pc ls (.ref a :: st) := by
  obtain ⟨hd, rfl⟩ := hd
  refine K.move (fun p e s m args below meth c G T locs X eT N => ?_)
  obtain ⟨g1, g2, g3, g4, g5, hZ, hown, g8, g9⟩ := G
  have hn : n0 ≤ h.size := by rw [← eT]; exact Nat.le_trans g9 X.same.2.1
  obtain ⟨T', X', e', q'⟩ := RoadKit.getF X g1 hZ hown (host := "") (Or.inl w) Via.refl eT F (g := mkF m pc ls (.ref a :: st)) rfl rfl (hb g2 hd)
  exact ⟨T', _, _, _, _, _, _, _, X', e', N, (Nat.le_refl _), k, fun t q => q' t q⟩
theorem Kx.putF (K : Kx E y bytes ml rt l Z R n0 Q) {i kk : Nat} {O n d C : String} {ty : FieldType} {v old : Value} (hd : Dc bytes pc (.putfield i) 3 pc') (w : (Jvm.Cond.fieldLink y.cls i O n d).before a0 Z = true) (F : Fld Z h a O n d old) (X0 : Exa Z h a C)
    (L : (Jvm.Cond.lays C O n d).before a0 Z = true ∨ ((Jvm.Cond.laysFinal C O n d).before a0 Z = true ∧ y.cls = O ∧ y.name = "<init>")) (wi : (Jvm.Cond.instantiable C kk).before a0 Z = true) (ht : parseFieldDescriptor d = some ty) (hna : narrow ty v = v) (hf : fits ty v = true) (ge : n0 ≤ a)
    (k : ∀ h', Wr h h' a (RoadKit.slotOf Z O n d) v → Wk E h' kc kn pc' ls st) : Wk E h kc kn pc ls (v :: .ref a :: st) := by
  obtain ⟨hd, rfl⟩ := hd
  refine K.move (fun p e s m args below meth c G T locs X eT N => ?_)
  obtain ⟨g1, g2, g3, g4, g5, hZ, hown, g8, g9⟩ := G
  have hn : n0 ≤ h.size := by rw [← eT]; exact Nat.le_trans g9 X.same.2.1
  obtain ⟨T', h', X', e', W, q'⟩ := RoadKit.putF X g1 hZ hown (host := "") (Or.inl w) Via.refl eT F X0 (L.imp id fun u => ⟨u.1, u.2.1, g8.trans u.2.2⟩) wi ht hna hf (g := mkF m pc ls (v :: .ref a :: st)) rfl rfl (hb g2 hd)
  exact ⟨T', _, _, _, _, _, _, _, X', e', (Fr.snoc X' N ge), (Nat.le_of_eq W.size.symm), k h' W, fun t q => q' t q⟩
theorem Kx.newO (K : Kx E y bytes ml rt l Z R n0 Q) {i sz : Nat} {C : String} (kc' kn' : Nat) (hd : Dc bytes pc (.new i) 3 pc') (w : (Jvm.Cond.classLink y.cls i C).before a0 Z = true) (wi : (Jvm.Cond.instantiable C sz).before a0 Z = true) (wz : (Jvm.Cond.initialized C).before a0 Z = true)
    (hk : kc + 1 = kc') (hk2 : kn + sz = kn') (hc : kc' ≤ R.cells) (hl : kn' ≤ R.slots)
    (k : ∀ h' a, a = h.size → n0 ≤ a → Ext h h' → Exa Z h' a C → (∀ {O nm d : String} {ty : FieldType}, Laid Z a0 C O nm d → parseFieldDescriptor d = some ty → Fld Z h' a O nm d (defaultValue ty)) → Wk E h' kc' kn' pc' ls (.ref a :: st)) : Wk E h kc kn pc ls st := by
  obtain ⟨hd, rfl⟩ := hd
  refine K.move (fun p e s m args below meth c G T locs X eT N => ?_)
  obtain ⟨g1, g2, g3, g4, g5, hZ, hown, g8, g9⟩ := G
  have hn : n0 ≤ h.size := by rw [← eT]; exact Nat.le_trans g9 X.same.2.1
  subst hk hk2
  obtain ⟨T', h', X', e', E', A', D', -, q'⟩ := RoadKit.newO X g1 hZ hown w wi wz eT (g := mkF m pc ls st) rfl (hb g2 hd) hc hl
  exact ⟨T', _, _, _, _, _, _, _, X', e', N, E'.1, k h' h.size rfl hn E' A' D', fun t q => q' t q⟩
theorem Kx.newP (K : Kx E y bytes ml rt l Z R n0 Q) {aty : ArrayType} {N : Int32} {ty : FieldType} {dv : Value} (cap kc' kn' : Nat) (hd : Dc bytes pc (.newarray aty) 2 pc') (w : (Jvm.Cond.arrayClass ty).before a0 Z = true) (hty : newarray.typeOf aty = ty) (hdv : defaultValue ty = dv) (hN : ¬ N < 0) (hcap : N.toNatClampNeg ≤ cap) (h8 : cap * 8 ≤ 536870912)
    (hk : kc + 1 = kc') (hk2 : kn + cap = kn') (hc : kc' ≤ R.cells) (hl : kn' ≤ R.slots)
    (k : ∀ h' a, a = h.size → n0 ≤ a → Ext h h' → Ia Z h' a ty N (fun _ => dv) → Wk E h' kc' kn' pc' ls (.ref a :: st)) : Wk E h kc kn pc ls (.int N :: st) := by
  obtain ⟨hd, rfl⟩ := hd
  refine K.move (fun p e s m args below meth c G T locs X eT N' => ?_)
  obtain ⟨g1, g2, g3, g4, g5, hZ, hown, g8, g9⟩ := G
  have hn : n0 ≤ h.size := by rw [← eT]; exact Nat.le_trans g9 X.same.2.1
  subst hk hk2 hty hdv
  obtain ⟨T', h', cA, X', e', E', A', q'⟩ := RoadKit.newP X g1 hZ w eT (g := mkF m pc ls (.int N :: st)) rfl (hb g2 hd) rfl hN hcap h8 hc hl
  exact ⟨T', _, _, _, _, _, _, _, X', e', N', E'.1, k h' h.size rfl hn E' (Ia.new A' hN), fun t q => q' t q⟩
theorem Kx.newR (K : Kx E y bytes ml rt l Z R n0 Q) {i : Nat} {N : Int32} {C : String} (cap kc' kn' : Nat) (hd : Dc bytes pc (.anewarray i) 3 pc') (w1 : (Jvm.Cond.classLink y.cls i C).before a0 Z = true) (w2 : (Jvm.Cond.arrayOver (.object C)).before a0 Z = true) (hN : ¬ N < 0) (hcap : N.toNatClampNeg ≤ cap) (h8 : cap * 8 ≤ 536870912)
    (hk : kc + 1 = kc') (hk2 : kn + cap = kn') (hc : kc' ≤ R.cells) (hl : kn' ≤ R.slots)
    (k : ∀ h' a, a = h.size → n0 ≤ a → Ext h h' → Ia Z h' a (.object C) N (fun _ => .null) → Wk E h' kc' kn' pc' ls (.ref a :: st)) : Wk E h kc kn pc ls (.int N :: st) := by
  obtain ⟨hd, rfl⟩ := hd
  refine K.move (fun p e s m args below meth c G T locs X eT N' => ?_)
  obtain ⟨g1, g2, g3, g4, g5, hZ, hown, g8, g9⟩ := G
  have hn : n0 ≤ h.size := by rw [← eT]; exact Nat.le_trans g9 X.same.2.1
  subst hk hk2
  obtain ⟨T', h', cA, X', e', E', A', O', q'⟩ := RoadKit.newR X g1 hZ hown w1 w2 eT (g := mkF m pc ls (.int N :: st)) rfl (hb g2 hd) rfl hN hcap h8 hc hl
  exact ⟨T', _, _, _, _, _, _, _, X', e', N', E'.1, k h' h.size rfl hn E' (Ia.new A' hN), fun t q => q' t q⟩
theorem Kx.newRA (K : Kx E y bytes ml rt l Z R n0 Q) {i : Nat} {N : Int32} {C : String} {ty : FieldType} (cap kc' kn' : Nat) (hd : Dc bytes pc (.anewarray i) 3 pc') (hC : (FieldType.array ty).toString = C) (w1 : (Jvm.Cond.classLink y.cls i C).before a0 Z = true) (w2 : (Jvm.Cond.arrayOver (.array ty)).before a0 Z = true) (hN : ¬ N < 0) (hcap : N.toNatClampNeg ≤ cap) (h8 : cap * 8 ≤ 536870912)
    (hk : kc + 1 = kc') (hk2 : kn + cap = kn') (hc : kc' ≤ R.cells) (hl : kn' ≤ R.slots)
    (k : ∀ h' a, a = h.size → n0 ≤ a → Ext h h' → Ia Z h' a (.array ty) N (fun _ => .null) → Wk E h' kc' kn' pc' ls (.ref a :: st)) : Wk E h kc kn pc ls (.int N :: st) := by
  obtain ⟨hd, rfl⟩ := hd
  refine K.move (fun p e s m args below meth c G T locs X eT N' => ?_)
  obtain ⟨g1, g2, g3, g4, g5, hZ, hown, g8, g9⟩ := G
  have hn : n0 ≤ h.size := by rw [← eT]; exact Nat.le_trans g9 X.same.2.1
  subst hk hk2
  obtain ⟨T', h', cA, X', e', E', A', -, O', q'⟩ := RoadKit.newRA X g1 hZ hown hC w1 w2 eT (g := mkF m pc ls (.int N :: st)) rfl (hb g2 hd) rfl hN hcap h8 hc hl rfl
  exact ⟨T', _, _, _, _, _, _, _, X', e', N', E'.1, k h' h.size rfl hn E' (Ia.new A' hN), fun t q => q' t q⟩
theorem Kx.arraylength (K : Kx E y bytes ml rt l Z R n0 Q) {ty : FieldType} {N : Int32} {f : Int32 → Value} (hd : Dc bytes pc .arraylength 1 pc') (A : Ia Z h a ty N f) (k : Wk E h kc kn pc' ls (.int N :: st)) : Wk E h kc kn pc ls (.ref a :: st) := by
  obtain ⟨hd, rfl⟩ := hd
  obtain ⟨cl, A, S, M, G⟩ := A
  refine K.lift (fun p e s m args below meth c F T locs X eT t q => ?_) k
  exact X.arraylength F.1 (by rw [eT]; exact A.1) (State.isArrayOf_alike F.2.2.2.2.2.1.alike A.2.1) (g := mkF m pc ls (.ref a :: st)) rfl rfl (hb F.2.1 hd) t (by rw [len_of S M]; exact q)
theorem Kx.iaload (K : Kx E y bytes ml rt l Z R n0 Q) {N j : Int32} {f : Int32 → Value} {v : Value} (hd : Dc bytes pc .iaload 1 pc') (A : Ia Z h a .int N f) (h1 : ¬ j < 0) (h2 : j < N) (hv : f j = v) (k : Wk E h kc kn pc' ls (v :: st)) : Wk E h kc kn pc ls (.int j :: .ref a :: st) := by
  obtain ⟨hd, rfl⟩ := hd
  obtain ⟨cl, A, S, M, G⟩ := A
  refine K.lift (fun p e s m args below meth c F T locs X eT t q => ?_) k
  exact X.iaload F.1 (by rw [eT]; exact A.1) (State.isArrayOf_alike F.2.2.2.2.2.1.alike A.2.1) A.2.2 (inb_of S ⟨h1, h2⟩) (hv ▸ G j h1 h2) (g := mkF m pc ls (.int j :: .ref a :: st)) rfl rfl (hb F.2.1 hd) t q
theorem Kx.baload (K : Kx E y bytes ml rt l Z R n0 Q) {N j : Int32} {f : Int32 → Value} {v : Value} (hd : Dc bytes pc .baload 1 pc') (A : Ia Z h a .byte N f) (h1 : ¬ j < 0) (h2 : j < N) (hv : f j = v) (k : Wk E h kc kn pc' ls (v :: st)) : Wk E h kc kn pc ls (.int j :: .ref a :: st) := by
  obtain ⟨hd, rfl⟩ := hd
  obtain ⟨cl, A, S, M, G⟩ := A
  refine K.lift (fun p e s m args below meth c F T locs X eT t q => ?_) k
  exact X.baloadBytes F.1 (by rw [eT]; exact A.1) (State.isArrayOf_alike F.2.2.2.2.2.1.alike A.2.1) A.2.2 (inb_of S ⟨h1, h2⟩) (hv ▸ G j h1 h2) (g := mkF m pc ls (.int j :: .ref a :: st)) rfl rfl (hb F.2.1 hd) t q
theorem Kx.caload (K : Kx E y bytes ml rt l Z R n0 Q) {N j : Int32} {f : Int32 → Value} {v : Value} (hd : Dc bytes pc .caload 1 pc') (A : Ia Z h a .char N f) (h1 : ¬ j < 0) (h2 : j < N) (hv : f j = v) (k : Wk E h kc kn pc' ls (v :: st)) : Wk E h kc kn pc ls (.int j :: .ref a :: st) := by
  obtain ⟨hd, rfl⟩ := hd
  obtain ⟨cl, A, S, M, G⟩ := A
  refine K.lift (fun p e s m args below meth c F T locs X eT t q => ?_) k
  exact X.caload F.1 (by rw [eT]; exact A.1) (State.isArrayOf_alike F.2.2.2.2.2.1.alike A.2.1) A.2.2 (inb_of S ⟨h1, h2⟩) (hv ▸ G j h1 h2) (g := mkF m pc ls (.int j :: .ref a :: st)) rfl rfl (hb F.2.1 hd) t q
theorem Kx.aaload (K : Kx E y bytes ml rt l Z R n0 Q) {N j : Int32} {f : Int32 → Value} {ty : FieldType} {v : Value} (hd : Dc bytes pc .aaload 1 pc') (A : Ia Z h a ty N f) (hty : ty.isReference = true) (h1 : ¬ j < 0) (h2 : j < N) (hv : f j = v) (k : Wk E h kc kn pc' ls (v :: st)) : Wk E h kc kn pc ls (.int j :: .ref a :: st) := by
  obtain ⟨hd, rfl⟩ := hd
  obtain ⟨cl, A, S, M, G⟩ := A
  refine K.lift (fun p e s m args below meth c F T locs X eT t q => ?_) k
  exact X.aaload F.1 (by rw [eT]; exact A.1) (State.isArrayOf_alike F.2.2.2.2.2.1.alike A.2.1) hty A.2.2 (inb_of S ⟨h1, h2⟩) (hv ▸ G j h1 h2) (g := mkF m pc ls (.int j :: .ref a :: st)) rfl rfl (hb F.2.1 hd) t q
theorem Kx.iastore (K : Kx E y bytes ml rt l Z R n0 Q) {N j x : Int32} {f : Int32 → Value} (hd : Dc bytes pc .iastore 1 pc') (A : Ia Z h a .int N f) (h1 : ¬ j < 0) (h2 : j < N) (ge : n0 ≤ a)
    (k : ∀ h', Wr h h' a j.toNatClampNeg (.int x) → Ia Z h' a .int N (fun k => if k = j then .int x else f k) → Wk E h' kc kn pc' ls st) : Wk E h kc kn pc ls (.int x :: .int j :: .ref a :: st) := by
  obtain ⟨hd, rfl⟩ := hd
  refine K.move (fun p e s m args below meth c G T locs X eT N' => ?_)
  obtain ⟨g1, g2, g3, g4, g5, hZ, hown, g8, g9⟩ := G
  have hn : n0 ≤ h.size := by rw [← eT]; exact Nat.le_trans g9 X.same.2.1
  obtain ⟨cl, Ar, S, M, G⟩ := id A
  obtain ⟨T', h', X', e', W, q'⟩ := RoadKit.stI X g1 hZ eT Ar (inb_of S ⟨h1, h2⟩) (g := mkF m pc ls (.int x :: .int j :: .ref a :: st)) rfl rfl (hb g2 hd)
  exact ⟨T', _, _, _, _, _, _, _, X', e', (Fr.snoc X' N' ge), (Nat.le_of_eq W.size.symm), k h' W (A.set W h1), fun t q => q' t q⟩
theorem Kx.bastore (K : Kx E y bytes ml rt l Z R n0 Q) {N j x : Int32} {f : Int32 → Value} (hd : Dc bytes pc .bastore 1 pc') (A : Ia Z h a .byte N f) (h1 : ¬ j < 0) (h2 : j < N) (ge : n0 ≤ a)
    (k : ∀ h', Wr h h' a j.toNatClampNeg (.int x.toInt8.toInt32) → Ia Z h' a .byte N (fun k => if k = j then .int x.toInt8.toInt32 else f k) → Wk E h' kc kn pc' ls st) : Wk E h kc kn pc ls (.int x :: .int j :: .ref a :: st) := by
  obtain ⟨hd, rfl⟩ := hd
  refine K.move (fun p e s m args below meth c G T locs X eT N' => ?_)
  obtain ⟨g1, g2, g3, g4, g5, hZ, hown, g8, g9⟩ := G
  have hn : n0 ≤ h.size := by rw [← eT]; exact Nat.le_trans g9 X.same.2.1
  obtain ⟨cl, Ar, S, M, G⟩ := id A
  obtain ⟨T', h', X', e', W, q'⟩ := RoadKit.stB X g1 hZ eT Ar (inb_of S ⟨h1, h2⟩) (g := mkF m pc ls (.int x :: .int j :: .ref a :: st)) rfl rfl (hb g2 hd)
  exact ⟨T', _, _, _, _, _, _, _, X', e', (Fr.snoc X' N' ge), (Nat.le_of_eq W.size.symm), k h' W (A.set W h1), fun t q => q' t q⟩
theorem Kx.castore (K : Kx E y bytes ml rt l Z R n0 Q) {N j x : Int32} {f : Int32 → Value} (hd : Dc bytes pc .castore 1 pc') (A : Ia Z h a .char N f) (h1 : ¬ j < 0) (h2 : j < N) (ge : n0 ≤ a)
    (k : ∀ h', Wr h h' a j.toNatClampNeg (.int x.toUInt32.toUInt16.toUInt32.toInt32) → Ia Z h' a .char N (fun k => if k = j then .int x.toUInt32.toUInt16.toUInt32.toInt32 else f k) → Wk E h' kc kn pc' ls st) : Wk E h kc kn pc ls (.int x :: .int j :: .ref a :: st) := by
  obtain ⟨hd, rfl⟩ := hd
  refine K.move (fun p e s m args below meth c G T locs X eT N' => ?_)
  obtain ⟨g1, g2, g3, g4, g5, hZ, hown, g8, g9⟩ := G
  have hn : n0 ≤ h.size := by rw [← eT]; exact Nat.le_trans g9 X.same.2.1
  obtain ⟨cl, Ar, S, M, G⟩ := id A
  obtain ⟨T', h', X', e', W, q'⟩ := RoadKit.stC X g1 hZ eT Ar (inb_of S ⟨h1, h2⟩) (g := mkF m pc ls (.int x :: .int j :: .ref a :: st)) rfl rfl (hb g2 hd)
  exact ⟨T', _, _, _, _, _, _, _, X', e', (Fr.snoc X' N' ge), (Nat.le_of_eq W.size.symm), k h' W (A.set W h1), fun t q => q' t q⟩
theorem Kx.getS (K : Kx E y bytes ml rt l Z R n0 Q) {i : Nat} {O n d : String} {v : Value} (hd : Dc bytes pc (.getstatic i) 3 pc') (w : (Jvm.Cond.fieldLink y.cls i O n d).before a0 Z = true) (F : Sta Z h O n d v) (k : Wk E h kc kn pc' ls (v :: st)) : Wk E h kc kn pc ls st := by
  obtain ⟨hd, rfl⟩ := hd
  refine K.move (fun p e s m args below meth c G T locs X eT N => ?_)
  obtain ⟨g1, g2, g3, g4, g5, hZ, hown, g8, g9⟩ := G
  have hn : n0 ≤ h.size := by rw [← eT]; exact Nat.le_trans g9 X.same.2.1
  obtain ⟨T', X', e', q'⟩ := RoadKit.getS (host := "") X g1 hZ hown w Via.refl eT F (g := mkF m pc ls st) rfl (hb g2 hd)
  exact ⟨T', _, _, _, _, _, _, _, X', e', N, (Nat.le_refl _), k, fun t q => q' t q⟩
theorem Kx.castY (K : Kx E y bytes ml rt l Z R n0 Q) {i : Nat} {C : String} (hd : Dc bytes pc (.checkcast i) 3 pc') (w : (Jvm.Cond.classLink y.cls i C).before a0 Z = true) (F : Ins Z h a C true) (k : Wk E h kc kn pc' ls (.ref a :: st)) : Wk E h kc kn pc ls (.ref a :: st) := by
  obtain ⟨hd, rfl⟩ := hd
  refine K.move (fun p e s m args below meth c G T locs X eT N => ?_)
  obtain ⟨g1, g2, g3, g4, g5, hZ, hown, g8, g9⟩ := G
  obtain ⟨T', X', e', q'⟩ := RoadKit.castY X g1 hZ hown w eT F (g := mkF m pc ls (.ref a :: st)) rfl rfl (hb g2 hd)
  exact ⟨T', _, _, _, _, _, _, _, X', e', N, (Nat.le_refl _), k, fun t q => q' t q⟩
theorem Kx.instY (K : Kx E y bytes ml rt l Z R n0 Q) {i : Nat} {C : String} (hd : Dc bytes pc (.instanceof i) 3 pc') (w : (Jvm.Cond.classLink y.cls i C).before a0 Z = true) (F : Ins Z h a C true) (k : Wk E h kc kn pc' ls (.int 1 :: st)) : Wk E h kc kn pc ls (.ref a :: st) := by
  obtain ⟨hd, rfl⟩ := hd
  refine K.move (fun p e s m args below meth c G T locs X eT N => ?_)
  obtain ⟨g1, g2, g3, g4, g5, hZ, hown, g8, g9⟩ := G
  obtain ⟨T', X', e', q'⟩ := RoadKit.instY X g1 hZ hown w eT F (g := mkF m pc ls (.ref a :: st)) rfl rfl (hb g2 hd)
  exact ⟨T', _, _, _, _, _, _, _, X', e', N, (Nat.le_refl _), k, fun t q => q' t q⟩
theorem Kx.instNo (K : Kx E y bytes ml rt l Z R n0 Q) {i : Nat} {C D : String} (hd : Dc bytes pc (.instanceof i) 3 pc') (w : (Jvm.Cond.classLink y.cls i C).before a0 Z = true) (X0 : Exa Z h a D) (F : ∃ c t, Z.vm.findClass D = some c ∧ Z.vm.findClass C = some t ∧ Z.vm.assignable c t = false) (k : Wk E h kc kn pc' ls (.int 0 :: st)) : Wk E h kc kn pc ls (.ref a :: st) := by
  obtain ⟨hd, rfl⟩ := hd
  refine K.move (fun p e s m args below meth c G T locs X eT N => ?_)
  obtain ⟨g1, g2, g3, g4, g5, hZ, hown, g8, g9⟩ := G
  obtain ⟨T', X', e', q'⟩ := RoadKit.instNo X g1 hZ hown w eT X0 F (g := mkF m pc ls (.ref a :: st)) rfl rfl (hb g2 hd)
  exact ⟨T', _, _, _, _, _, _, _, X', e', N, (Nat.le_refl _), k, fun t q => q' t q⟩
theorem Kx.instNull (K : Kx E y bytes ml rt l Z R n0 Q) {i : Nat} (hd : Dc bytes pc (.instanceof i) 3 pc') (k : Wk E h kc kn pc' ls (.int 0 :: st)) : Wk E h kc kn pc ls (.null :: st) := by
  obtain ⟨hd, rfl⟩ := hd
  exact K.lift (fun p e s m args below meth c F T locs X eT t q => X.instanceofNull F.1 (g := mkF m pc ls (.null :: st)) rfl rfl (hb F.2.1 hd) t q) k
def Pl (h : Heap) (x : Addr) : Prop := ∃ c : Cell, h[x]? = some c ∧ c.vm.isStatics = false
theorem plE {C : String} (F : Exa Z h a C) : Pl h a := by obtain ⟨c, _, h1, -, -, h4, -⟩ := F; exact ⟨c, h1, h4⟩
theorem plA {ty : FieldType} {N : Int32} {f : Int32 → Value} (F : Ia Z h a ty N f) : Pl h a := by obtain ⟨c, A, -⟩ := F; exact ⟨c, A.1, A.plain⟩
theorem staK {C n d : String} {v : Value} {ws : List Addr} (F : Sta Z h C n d v) (K : Keep h h' ws) (q : ∀ x ∈ ws, Pl h x) : Sta Z h' C n d v := by
  obtain ⟨cf, i, k, f, sa, cell, h1, h2, h3, h4, h5, h6, h7⟩ := F
  refine ⟨cf, i, k, f, sa, cell, h1, h2, h3, h4, K.2.1 sa cell h5 (fun u => ?_), h6, h7⟩
  obtain ⟨c, e1, e2⟩ := q sa u
  cases h5.symm.trans e1
  rw [e2] at h6; cases h6
theorem Kx.ac_eq (K : Kx E y bytes ml rt l Z R n0 Q) {o : Int} (hd : Db bytes pc (.if_acmp .eq o) o pc1 pc2) (k1 : a = b → Wk E h kc kn pc2 ls st) (k2 : ¬ a = b → Wk E h kc kn pc1 ls st) : Wk E h kc kn pc ls (.ref b :: .ref a :: st) := by
  obtain ⟨hd, rfl, h0, h1⟩ := hd
  by_cases u : a = b
  · exact K.lift (fun p e s m args below meth c F T locs X eT t q => RoadKit.acmp (g := mkF m pc ls (.ref b :: .ref a :: st)) X F.1 rfl (x := .ref a) (y := .ref b) rfl rfl (same := true) rfl (hb F.2.1 hd) rfl (by simp [u]) h0 (by simp [acV, h1]) q) (k1 u)
  · exact K.lift (fun p e s m args below meth c F T locs X eT t q => RoadKit.acmp (g := mkF m pc ls (.ref b :: .ref a :: st)) X F.1 rfl (x := .ref a) (y := .ref b) rfl rfl (same := false) rfl (hb F.2.1 hd) rfl (by simp [u]) h0 (by simp [acV]) q) (k2 u)
theorem Kx.ac_ne (K : Kx E y bytes ml rt l Z R n0 Q) {o : Int} (hd : Db bytes pc (.if_acmp .ne o) o pc1 pc2) (k1 : a = b → Wk E h kc kn pc1 ls st) (k2 : ¬ a = b → Wk E h kc kn pc2 ls st) : Wk E h kc kn pc ls (.ref b :: .ref a :: st) := by
  obtain ⟨hd, rfl, h0, h1⟩ := hd
  by_cases u : a = b
  · exact K.lift (fun p e s m args below meth c F T locs X eT t q => RoadKit.acmp (g := mkF m pc ls (.ref b :: .ref a :: st)) X F.1 rfl (x := .ref a) (y := .ref b) rfl rfl (same := true) rfl (hb F.2.1 hd) rfl (by simp [u]) h0 (by simp [acV]) q) (k1 u)
  · exact K.lift (fun p e s m args below meth c F T locs X eT t q => RoadKit.acmp (g := mkF m pc ls (.ref b :: .ref a :: st)) X F.1 rfl (x := .ref a) (y := .ref b) rfl rfl (same := false) rfl (hb F.2.1 hd) rfl (by simp [u]) h0 (by simp [acV, h1]) q) (k2 u)
theorem Kx.initO (K : Kx E y bytes ml rt l Z R n0 Q) {i : Nat} (W : Nat) (hd : Dc bytes pc (.invokespecial i) 3 pc') (w1 : (Jvm.Cond.methodLink y.cls i Lib.objectInit).before a0 Z = true) (w2 : (Jvm.Cond.instanceMethod Lib.objectInit).before a0 Z = true) (w3 : (Jvm.Cond.code Lib.objectInit ⟨#[0xb1]⟩ 1 none).before a0 Z = true)
    (hsz : ls.size = ml) (hf : 1 ≤ R.frames) (hW : (st.map fun v => v.category).sum ≤ W) (hlo : W + 12 ≤ R.locals) (k : Wk E h kc kn pc' ls st) : Wk E h kc kn pc ls (.ref a :: st) := by
  obtain ⟨hd, rfl⟩ := hd
  refine K.move (fun p e s m args below meth c G T locs X eT N => ?_)
  obtain ⟨g1, g2, g3, g4, g5, hZ, hown, g8, g9⟩ := G
  have hn : n0 ≤ h.size := by rw [← eT]; exact Nat.le_trans g9 X.same.2.1
  obtain ⟨T', X', e', q'⟩ := RoadKit.initO X g1 hZ hown w1 w2 w3 eT (g := mkF m pc ls (.ref a :: st)) rfl (by rw [g3]; exact hsz) rfl (hb g2 hd) hf (W := W) (by show 2 * 0 + _ ≤ _; omega) hlo
  exact ⟨T', _, _, _, _, _, _, _, X', e', N, (Nat.le_refl _), k, fun t q => q' t q⟩
theorem Kx.callS (K : Kx E y bytes ml rt l Z R n0 Q) {i : Nat} {y' : MethodName} {bytes' : ByteArray} {ml' : Nat} {rt' : Option FieldType} {rm : Room} {Q' : Option Value → Heap → Prop} (as rest : List Value) (W kc' kn' : Nat) (hd : Dc bytes pc (.invokestatic i) 3 pc')
    (wl : (Jvm.Cond.methodLink y.cls i y').before a0 Z = true) (ws : (Jvm.Cond.static y').before a0 Z = true) (wz : (Jvm.Cond.initialized y'.cls).before a0 Z = true) (wc : (Jvm.Cond.code y' bytes' ml' rt').before a0 Z = true) (hy : y'.cls ≠ "java/lang/invoke/MethodHandle" ∧ y'.cls ≠ "java/lang/invoke/VarHandle")
    (con : Con l Z y' bytes' ml' rt' rm as.toArray h n0 Q') (hst : st = as.reverse ++ rest) (hlen : ∀ sig, parseMethodDescriptor y'.desc = some sig → as.length = sig.parameters.length) (hsz : ls.size = ml) (hW : (rest.map fun v => v.category).sum ≤ W)
    (hf : rm.frames + 1 ≤ R.frames) (hlo : W + (ml' + 11) + rm.locals ≤ R.locals) (hk : kc + rm.cells = kc') (hk2 : kn + rm.slots = kn') (hc : kc' ≤ R.cells) (hl : kn' ≤ R.slots)
    (k : ∀ v h', Q' v h' → Wk E h' kc' kn' pc' ls (v.toList ++ rest)) : Wk E h kc kn pc ls st := by
  obtain ⟨hd, rfl⟩ := hd
  obtain ⟨p, e, s, m, args, below, meth, c, rfl, g1, g2, g3, g4, g5, hZ, hown, g8, g9⟩ := K
  intro T locs X eT N
  have hn : n0 ≤ h.size := by rw [← eT]; exact Nat.le_trans g9 X.same.2.1
  subst hst hk hk2
  obtain ⟨v, vm₁, ⟨T', L', k', n'⟩, -, X', ⟨L, ⟨hQ, hFr⟩, e1, e2, e3⟩, q'⟩ := Jvm.LawKit.callS X g1 (y := y') hown (mvT hZ wl) (mvT hZ ws) (mvT hZ wz) (mvT hZ wc) hy (backOf (W := W) (Q := fun v h L => Q' v h ∧ Fr n0 L) (con hn []) hZ wc wz hf hlo) (g := mkF m pc ls (as.reverse ++ rest)) rfl (by rw [g3]; exact hsz) (argsL := as) (rest := rest) hlen rfl (by show 2 * 0 + _ ≤ _; omega) (hb g2 hd) (fun _ _ => ⟨rfl, eT, hc, hl⟩)
  dsimp only [Pt.U, Pt.locs, Pt.cells, Pt.slots] at X' e1 e2 e3 q' hQ
  subst e1 e2 e3
  obtain ⟨s₂, o, q, r⟩ := k v T'.heap hQ T' _ X' rfl (Fr.app N hFr)
  exact ⟨s₂, o, q' _ q, r⟩
theorem Kx.callI (K : Kx E y bytes ml rt l Z R n0 Q) {i : Nat} {y' : MethodName} {bytes' : ByteArray} {ml' : Nat} {rt' : Option FieldType} {rm : Room} {Q' : Option Value → Heap → Prop} (as rest : List Value) (W kc' kn' : Nat) (hd : Dc bytes pc (.invokespecial i) 3 pc') (hy1 : y'.name = "<init>") (hrt : rt' = none)
    (wl : (Jvm.Cond.methodLink y.cls i y').before a0 Z = true) (wn : (Jvm.Cond.instanceMethod y').before a0 Z = true) (wz : (Jvm.Cond.initialized y'.cls).before a0 Z = true) (wc : (Jvm.Cond.code y' bytes' ml' rt').before a0 Z = true) (hy : y'.cls ≠ "java/lang/invoke/MethodHandle" ∧ y'.cls ≠ "java/lang/invoke/VarHandle")
    (con : Con l Z y' bytes' ml' rt' rm (.ref a :: as).toArray h n0 Q') (hst : st = as.reverse ++ .ref a :: rest) (hlen : ∀ sig, parseMethodDescriptor y'.desc = some sig → as.length = sig.parameters.length) (hsz : ls.size = ml) (hW : (rest.map fun v => v.category).sum ≤ W)
    (hf : rm.frames + 1 ≤ R.frames) (hlo : W + (ml' + 11) + rm.locals ≤ R.locals) (hk : kc + rm.cells = kc') (hk2 : kn + rm.slots = kn') (hc : kc' ≤ R.cells) (hl : kn' ≤ R.slots)
    (k : ∀ v h', Q' v h' → Wk E h' kc' kn' pc' ls (v.toList ++ rest)) : Wk E h kc kn pc ls st := by
  obtain ⟨hd, rfl⟩ := hd
  obtain ⟨p, e, s, m, args, below, meth, c, rfl, g1, g2, g3, g4, g5, hZ, hown, g8, g9⟩ := K
  intro T locs X eT N
  have hn : n0 ≤ h.size := by rw [← eT]; exact Nat.le_trans g9 X.same.2.1
  subst hst hk hk2
  subst hrt
  obtain ⟨v, vm₁, ⟨T', L', k', n'⟩, -, X', ⟨L, ⟨hQ, hFr⟩, e1, e2, e3⟩, q'⟩ := X.specialBack g1 (y := y') hy1 hown (mvT hZ wl) (mvT hZ wn) (mvT hZ wc) hy (backOf (W := W) (Q := fun v h L => Q' v h ∧ Fr n0 L) (con hn []) hZ wc wz hf hlo) (g := mkF m pc ls (as.reverse ++ .ref a :: rest)) rfl (by rw [g3]; exact hsz) (Steps.refl _) (a := a) (argsL := as) (rest := rest) hlen rfl (by show 2 * 0 + _ ≤ _; omega) (hb g2 hd) (fun _ _ => ⟨rfl, eT, hc, hl⟩)
  dsimp only [Pt.U, Pt.locs, Pt.cells, Pt.slots] at X' e1 e2 e3 q' hQ
  subst e1 e2 e3
  obtain ⟨s₂, o, q, r⟩ := k v T'.heap hQ T' _ X' rfl (Fr.app N hFr)
  exact ⟨s₂, o, q'.trans q, r⟩
theorem Kx.callV (K : Kx E y bytes ml rt l Z R n0 Q) {i : Nat} {y' : MethodName} {bytes' : ByteArray} {ml' : Nat} {rt' : Option FieldType} {rm : Room} {Q' : Option Value → Heap → Prop} (as rest : List Value) (W kc' kn' : Nat) {C : String} (hd : Dc bytes pc (.invokevirtual i) 3 pc')
    (wl : (Jvm.Cond.methodLink y.cls i y').before a0 Z = true) (wd : (Jvm.Cond.declares y').before a0 Z = true) (wse : (Jvm.Cond.selects C y' y').before a0 Z = true) (wn : (Jvm.Cond.instanceMethod y').before a0 Z = true) (wz : (Jvm.Cond.initialized y'.cls).before a0 Z = true) (wc : (Jvm.Cond.code y' bytes' ml' rt').before a0 Z = true) (hy : y'.cls ≠ "java/lang/invoke/MethodHandle" ∧ y'.cls ≠ "java/lang/invoke/VarHandle")
    (con : Con l Z y' bytes' ml' rt' rm (.ref a :: as).toArray h n0 Q') (X0 : Exa Z h a C) (hst : st = as.reverse ++ .ref a :: rest) (hlen : ∀ sig, parseMethodDescriptor y'.desc = some sig → as.length = sig.parameters.length) (hsz : ls.size = ml) (hW : (rest.map fun v => v.category).sum ≤ W)
    (hf : rm.frames + 1 ≤ R.frames) (hlo : W + (ml' + 11) + rm.locals ≤ R.locals) (hk : kc + rm.cells = kc') (hk2 : kn + rm.slots = kn') (hc : kc' ≤ R.cells) (hl : kn' ≤ R.slots)
    (k : ∀ v h', Q' v h' → Wk E h' kc' kn' pc' ls (v.toList ++ rest)) : Wk E h kc kn pc ls st := by
  obtain ⟨hd, rfl⟩ := hd
  obtain ⟨p, e, s, m, args, below, meth, c, rfl, g1, g2, g3, g4, g5, hZ, hown, g8, g9⟩ := K
  intro T locs X eT N
  have hn : n0 ≤ h.size := by rw [← eT]; exact Nat.le_trans g9 X.same.2.1
  subst hst hk hk2
  obtain ⟨cq, kq, qa, qb, qc⟩ := isOf hZ eT X0
  obtain ⟨v, vm₁, ⟨T', L', k', n'⟩, -, X', ⟨L, ⟨hQ, hFr⟩, e1, e2, e3⟩, q'⟩ := X.virtualBack g1 (y := y') (z := y') hown (mvT hZ wl) (mvT hZ wd) (notFace_of_selects (args := #[]) (mvT hZ wse)) (mvT hZ wse) (mvT hZ wn) hy (backOf (W := W) (Q := fun v h L => Q' v h ∧ Fr n0 L) (con hn []) hZ wc wz hf hlo) qa qc (g := mkF m pc ls (as.reverse ++ .ref a :: rest)) rfl (by rw [g3]; exact hsz) (Steps.refl _) (argsL := as) (rest := rest) hlen rfl (by show 2 * 0 + _ ≤ _; omega) (hb g2 hd) (fun _ _ => ⟨rfl, eT, hc, hl⟩)
  dsimp only [Pt.U, Pt.locs, Pt.cells, Pt.slots] at X' e1 e2 e3 q' hQ
  subst e1 e2 e3
  obtain ⟨s₂, o, q, r⟩ := k v T'.heap hQ T' _ X' rfl (Fr.app N hFr)
  exact ⟨s₂, o, q'.trans q, r⟩
theorem Kx.callP (K : Kx E y bytes ml rt l Z R n0 Q) {i : Nat} {y' : MethodName} {bytes' : ByteArray} {ml' : Nat} {rt' : Option FieldType} {rm : Room} {Q' : Option Value → Heap → Prop} (as rest : List Value) (W kc' kn' : Nat) {C : String} (hd : Dc bytes pc (.invokevirtual i) 3 pc')
    (wl : (Jvm.Cond.methodLink y.cls i y').before a0 Z = true) (wp : (Jvm.Cond.privateMethod y').before a0 Z = true) (wse : (Jvm.Cond.selects y'.cls y' y').before a0 Z = true) (wn : (Jvm.Cond.instanceMethod y').before a0 Z = true) (wz : (Jvm.Cond.initialized y'.cls).before a0 Z = true) (wc : (Jvm.Cond.code y' bytes' ml' rt').before a0 Z = true) (hy : y'.cls ≠ "java/lang/invoke/MethodHandle" ∧ y'.cls ≠ "java/lang/invoke/VarHandle")
    (con : Con l Z y' bytes' ml' rt' rm (.ref a :: as).toArray h n0 Q') (X0 : Exa Z h a C) (hst : st = as.reverse ++ .ref a :: rest) (hlen : ∀ sig, parseMethodDescriptor y'.desc = some sig → as.length = sig.parameters.length) (hsz : ls.size = ml) (hW : (rest.map fun v => v.category).sum ≤ W)
    (hf : rm.frames + 1 ≤ R.frames) (hlo : W + (ml' + 11) + rm.locals ≤ R.locals) (hk : kc + rm.cells = kc') (hk2 : kn + rm.slots = kn') (hc : kc' ≤ R.cells) (hl : kn' ≤ R.slots)
    (k : ∀ v h', Q' v h' → Wk E h' kc' kn' pc' ls (v.toList ++ rest)) : Wk E h kc kn pc ls st := by
  obtain ⟨hd, rfl⟩ := hd
  obtain ⟨p, e, s, m, args, below, meth, c, rfl, g1, g2, g3, g4, g5, hZ, hown, g8, g9⟩ := K
  intro T locs X eT N
  have hn : n0 ≤ h.size := by rw [← eT]; exact Nat.le_trans g9 X.same.2.1
  subst hst hk hk2
  obtain ⟨cq, qa, qb⟩ := X0.cell
  obtain ⟨v, vm₁, ⟨T', L', k', n'⟩, -, X', ⟨L, ⟨hQ, hFr⟩, e1, e2, e3⟩, q'⟩ := X.privateBack g1 (y := y') hown (mvT hZ wl) (mvT hZ wn) (mvT hZ wse) (Cond.privateMethod_at (mvP hZ wp (args := #[]))) (mvT hZ wc) hy (backOf (W := W) (Q := fun v h L => Q' v h ∧ Fr n0 L) (con hn []) hZ wc wz hf hlo) (g := mkF m pc ls (as.reverse ++ .ref a :: rest)) rfl (by rw [g3]; exact hsz) (Steps.refl _) (a := a) (by rw [eT]; exact qa) qb (argsL := as) (rest := rest) hlen rfl (by show 2 * 0 + _ ≤ _; omega) (hb g2 hd) (fun _ _ => ⟨rfl, eT, hc, hl⟩)
  dsimp only [Pt.U, Pt.locs, Pt.cells, Pt.slots] at X' e1 e2 e3 q' hQ
  subst e1 e2 e3
  obtain ⟨s₂, o, q, r⟩ := k v T'.heap hQ T' _ X' rfl (Fr.app N hFr)
  exact ⟨s₂, o, q'.trans q, r⟩
/-- how a call goes on: it hands back one value and leaves the heap; a value; nothing; a reference -/
theorem goP {val : Value} {rest : List Value} (k : Wk E h kc kn pc ls (val :: rest)) : ∀ v h', (v = some val ∧ h' = h) → Wk E h' kc kn pc ls (v.toList ++ rest) := fun v h' q => by obtain ⟨rfl, rfl⟩ := q; exact k
theorem goV {val : Value} {rest : List Value} {Qh : Heap → Prop} (k : ∀ h', Qh h' → Wk E h' kc kn pc ls (val :: rest)) : ∀ v h', (v = some val ∧ Qh h') → Wk E h' kc kn pc ls (v.toList ++ rest) := fun v h' q => by obtain ⟨rfl, q⟩ := q; exact k h' q
theorem goN {rest : List Value} (k : Wk E h kc kn pc ls rest) : ∀ v h', (v = (none : Option Value) ∧ h' = h) → Wk E h' kc kn pc ls (v.toList ++ rest) := fun v h' q => by obtain ⟨rfl, rfl⟩ := q; exact k
theorem goU {rest : List Value} {Qh : Heap → Prop} (k : ∀ h', Qh h' → Wk E h' kc kn pc ls rest) : ∀ v h', (v = (none : Option Value) ∧ Qh h') → Wk E h' kc kn pc ls (v.toList ++ rest) := fun v h' q => by obtain ⟨rfl, q⟩ := q; exact k h' q
theorem goR {rest : List Value} {Qr : Addr → Heap → Prop} (k : ∀ a h', Qr a h' → Wk E h' kc kn pc ls (.ref a :: rest)) : ∀ v h', (∃ a, v = some (.ref a) ∧ Qr a h') → Wk E h' kc kn pc ls (v.toList ++ rest) := fun v h' q => by obtain ⟨a, rfl, q⟩ := q; exact k a h' q
theorem goI {rest : List Value} {Qr : Int32 → Heap → Prop} (k : ∀ a h', Qr a h' → Wk E h' kc kn pc ls (.int a :: rest)) : ∀ v h', (∃ a, v = some (.int a) ∧ Qr a h') → Wk E h' kc kn pc ls (v.toList ++ rest) := fun v h' q => by obtain ⟨a, rfl, q⟩ := q; exact k a h' q
theorem Kx.ret (K : Kx E y bytes ml none l Z R n0 Q) (hd : Dc bytes pc .return_ 1 pc') (hc : kc ≤ R.cells) (hl : kn ≤ R.slots) (hQ : Q none h) : Wk E h kc kn pc ls [] := by
  obtain ⟨p, e, s, m, args, below, meth, c, rfl, g1, g2, g3, g4, g5, hZ, hown, g8, g9⟩ := K
  intro T locs X eT N
  obtain ⟨fs, hr, hrun, hended, hW, hsame⟩ := X.leave (v := none) (fun _ => rfl) g5
  exact ⟨_, _, X.returnOut g1 g4 (hb g2 hd.1) hr, hrun, hended, _, _, rfl, ⟨(by show Q none T.heap; rw [eT]; exact hQ), N⟩, ⟨_, rfl⟩, hW, hsame.mono hc hl⟩
theorem Kx.retW {t : FieldType} {w : Value} {i : Instr} (K : Kx E y bytes ml (some t) l Z R n0 Q) (hd : Dc bytes pc i 1 pc') (hna : narrow t w = w) (hi : (i = .ireturn ∧ (t = .int ∨ t = .boolean ∨ t = .byte ∨ t = .char ∨ t = .short) ∧ ∃ z, w = .int z) ∨ (i = .lreturn ∧ t = .long ∧ ∃ z, w = .long z) ∨ (i = .dreturn ∧ t = .double ∧ ∃ z, w = .double z) ∨ (i = .freturn ∧ t = .float ∧ ∃ z, w = .float z) ∨ (i = .areturn ∧ t.isReference = true ∧ w.isRef = true)) (hc : kc ≤ R.cells) (hl : kn ≤ R.slots) (hQ : Q (some w) h) : Wk E h kc kn pc ls (w :: st) := by
  obtain ⟨p, e, s, m, args, below, meth, c, rfl, g1, g2, g3, g4, g5, hZ, hown, g8, g9⟩ := K
  intro T locs X eT N
  obtain ⟨fs, hr, hrun, hended, hW, hsame⟩ := X.leave (v := some w) (fun h => by rw [g4] at h; cases h) g5
  exact ⟨_, _, retOut X g1 g4 hna hi (hb g2 hd.1) hr, hrun, hended, _, _, rfl, ⟨(by show Q (some w) T.heap; rw [eT]; exact hQ), N⟩, ⟨_, rfl⟩, hW, hsame.mono hc hl⟩
theorem Kx.ireturn {t : FieldType} {z : Int32} (K : Kx E y bytes ml (some t) l Z R n0 Q) (hd : Dc bytes pc .ireturn 1 pc') (ht : t = .int ∨ t = .boolean ∨ t = .byte ∨ t = .char ∨ t = .short) (hna : narrow t (.int z) = .int z) (hc : kc ≤ R.cells) (hl : kn ≤ R.slots) (hQ : Q (some (.int z)) h) : Wk E h kc kn pc ls (.int z :: st) :=
  K.retW hd hna (Or.inl ⟨rfl, ht, z, rfl⟩) hc hl hQ
theorem Kx.lreturn {z : Int64} (K : Kx E y bytes ml (some .long) l Z R n0 Q) (hd : Dc bytes pc .lreturn 1 pc') (hc : kc ≤ R.cells) (hl : kn ≤ R.slots) (hQ : Q (some (.long z)) h) : Wk E h kc kn pc ls (.long z :: st) :=
  K.retW hd rfl (Or.inr (Or.inl ⟨rfl, rfl, z, rfl⟩)) hc hl hQ
theorem Kx.areturn {t : FieldType} {w : Value} (K : Kx E y bytes ml (some t) l Z R n0 Q) (hd : Dc bytes pc .areturn 1 pc') (ht : t.isReference = true) (hw : w.isRef = true) (hna : narrow t w = w) (hc : kc ≤ R.cells) (hl : kn ≤ R.slots) (hQ : Q (some w) h) : Wk E h kc kn pc ls (w :: st) :=
  K.retW hd hna (Or.inr (Or.inr (Or.inr (Or.inr ⟨rfl, ht, hw⟩)))) hc hl hQ
theorem narB {P : Prop} [Decidable P] : narrow .boolean (.int (if P then 1 else 0)) = .int (if P then 1 else 0) := by split <;> rfl
theorem narB' {P : Prop} [Decidable P] : narrow .boolean (.int (if P then 0 else 1)) = .int (if P then 0 else 1) := by split <;> rfl
end Own
end Jvm.Pilot.@@N@@
namespace Jvm.Pilot.@@N@@
open Jvm Jvm.ClassFile Sem Op Lib Jvm.Free Jvm.Stand Jvm.LawKit Jvm.RoadKit Bundle Jvm.Pilot.@@N@@.Jvm.D
theorem dM_0 : Dc jdk_71_method_1_code 0 (.aload_n 0) 1 1 := ⟨by decide +kernel, rfl⟩
theorem dM_1 : Dc jdk_71_method_1_code 1 (.invokespecial 1) 3 4 := ⟨by decide +kernel, rfl⟩
set_option maxRecDepth 65536 in
theorem wd21 {Z : State} {a0 : Array Value} (hw : ∀ d ∈ tables_1, d.before a0 Z = true) : (Jvm.Cond.methodLink "java/util/AbstractMap" (1 : Nat) ({ cls := "java/lang/Object", name := "<init>", desc := "()V" } : Jvm.MethodName)).before a0 Z = true := hw _ (List.mem_of_getElem? (i := 21) rfl)
set_option maxRecDepth 65536 in
theorem wd7 {Z : State} {a0 : Array Value} (hw : ∀ d ∈ tables_1, d.before a0 Z = true) : (Jvm.Cond.instanceMethod ({ cls := "java/lang/Object", name := "<init>", desc := "()V" } : Jvm.MethodName)).before a0 Z = true := hw _ (List.mem_of_getElem? (i := 7) rfl)
set_option maxRecDepth 65536 in
theorem wd8 {Z : State} {a0 : Array Value} (hw : ∀ d ∈ tables_1, d.before a0 Z = true) : (Jvm.Cond.code ({ cls := "java/lang/Object", name := "<init>", desc := "()V" } : Jvm.MethodName) object_method_1_code (1 : Nat) (Option.none : Option Jvm.ClassFile.FieldType)).before a0 Z = true := hw _ (List.mem_of_getElem? (i := 8) rfl)
theorem dM_4 : Dc jdk_71_method_1_code 4 .return_ 1 5 := ⟨by decide +kernel, rfl⟩
theorem efM (m : MethodId) (x0 : Addr) : entryFrame m #[.ref x0] 1 = mkF m 0 #[.val (.ref x0)] [] := by first | (simp [entryFrame, mkF, argsToLocals, Value.category]; done) | rfl
theorem pnM : plainFor (⟨"java/util/AbstractMap", "<init>", "()V"⟩ : MethodName) = true := plainFor_of_name (by first | (simp [plainName, overriddenIn]; done) | decide +kernel)
theorem dH_0 : Dc jdk_69_method_7_code 0 (.aload_n 0) 1 1 := ⟨by decide +kernel, rfl⟩
theorem dH_1 : Dc jdk_69_method_7_code 1 (.invokespecial 43) 3 4 := ⟨by decide +kernel, rfl⟩
set_option maxRecDepth 65536 in
theorem wd19 {Z : State} {a0 : Array Value} (hw : ∀ d ∈ tables_1, d.before a0 Z = true) : (Jvm.Cond.initialized "java/util/AbstractMap").before a0 Z = true := hw _ (List.mem_of_getElem? (i := 19) rfl)
theorem pd_1 : parseMethodDescriptor "()V" = some ⟨[], none⟩ := by decide +kernel
set_option maxRecDepth 65536 in
theorem wd15 {Z : State} {a0 : Array Value} (hw : ∀ d ∈ tables_1, d.before a0 Z = true) : (Jvm.Cond.methodLink "java/util/HashMap" (43 : Nat) ({ cls := "java/util/AbstractMap", name := "<init>", desc := "()V" } : Jvm.MethodName)).before a0 Z = true := hw _ (List.mem_of_getElem? (i := 15) rfl)
set_option maxRecDepth 65536 in
theorem wd16 {Z : State} {a0 : Array Value} (hw : ∀ d ∈ tables_1, d.before a0 Z = true) : (Jvm.Cond.instanceMethod ({ cls := "java/util/AbstractMap", name := "<init>", desc := "()V" } : Jvm.MethodName)).before a0 Z = true := hw _ (List.mem_of_getElem? (i := 16) rfl)
set_option maxRecDepth 65536 in
theorem wd20 {Z : State} {a0 : Array Value} (hw : ∀ d ∈ tables_1, d.before a0 Z = true) : (Jvm.Cond.code ({ cls := "java/util/AbstractMap", name := "<init>", desc := "()V" } : Jvm.MethodName) jdk_71_method_1_code (1 : Nat) (Option.none : Option Jvm.ClassFile.FieldType)).before a0 Z = true := hw _ (List.mem_of_getElem? (i := 20) rfl)
theorem dH_4 : Dc jdk_69_method_7_code 4 (.aload_n 0) 1 5 := ⟨by decide +kernel, rfl⟩
theorem dH_5 : Dc jdk_69_method_7_code 5 (.ldc 92) 2 7 := ⟨by decide +kernel, rfl⟩
set_option maxRecDepth 65536 in
theorem wd22 {Z : State} {a0 : Array Value} (hw : ∀ d ∈ tables_1, d.before a0 Z = true) : (Jvm.Cond.constantFloat "java/util/HashMap" (92 : Nat) (1061158912 : UInt32)).before a0 Z = true := hw _ (List.mem_of_getElem? (i := 22) rfl)
theorem dH_7 : Dc jdk_69_method_7_code 7 (.putfield 81) 3 10 := ⟨by decide +kernel, rfl⟩
set_option maxRecDepth 65536 in
theorem wd24 {Z : State} {a0 : Array Value} (hw : ∀ d ∈ tables_1, d.before a0 Z = true) : (Jvm.Cond.laysFinal "java/util/HashMap" "java/util/HashMap" "loadFactor" "F").before a0 Z = true := hw _ (List.mem_of_getElem? (i := 24) rfl)
set_option maxRecDepth 65536 in
theorem wd23 {Z : State} {a0 : Array Value} (hw : ∀ d ∈ tables_1, d.before a0 Z = true) : (Jvm.Cond.fieldLink "java/util/HashMap" (81 : Nat) "java/util/HashMap" "loadFactor" "F").before a0 Z = true := hw _ (List.mem_of_getElem? (i := 23) rfl)
set_option maxRecDepth 65536 in
theorem wd10 {Z : State} {a0 : Array Value} (hw : ∀ d ∈ tables_1, d.before a0 Z = true) : (Jvm.Cond.instantiable "java/util/HashMap" (8 : Nat)).before a0 Z = true := hw _ (List.mem_of_getElem? (i := 10) rfl)
theorem dH_10 : Dc jdk_69_method_7_code 10 .return_ 1 11 := ⟨by decide +kernel, rfl⟩
theorem efH (m : MethodId) (x0 : Addr) : entryFrame m #[.ref x0] 1 = mkF m 0 #[.val (.ref x0)] [] := by first | (simp [entryFrame, mkF, argsToLocals, Value.category]; done) | rfl
theorem pnH : plainFor (⟨"java/util/HashMap", "<init>", "()V"⟩ : MethodName) = true := plainFor_of_name (by first | (simp [plainName, overriddenIn]; done) | decide +kernel)
theorem dI_0 : Dc prog_46_method_1_code 0 (.aload_n 0) 1 1 := ⟨by decide +kernel, rfl⟩
theorem dI_1 : Dc prog_46_method_1_code 1 (.invokespecial 5) 3 4 := ⟨by decide +kernel, rfl⟩
set_option maxRecDepth 65536 in
theorem wd6 {Z : State} {a0 : Array Value} (hw : ∀ d ∈ tables_1, d.before a0 Z = true) : (Jvm.Cond.methodLink "com/example/educe/educe/index/PostingsBuffer" (5 : Nat) ({ cls := "java/lang/Object", name := "<init>", desc := "()V" } : Jvm.MethodName)).before a0 Z = true := hw _ (List.mem_of_getElem? (i := 6) rfl)
theorem dI_4 : Dc prog_46_method_1_code 4 (.aload_n 0) 1 5 := ⟨by decide +kernel, rfl⟩
theorem dI_5 : Dc prog_46_method_1_code 5 (.new 11) 3 8 := ⟨by decide +kernel, rfl⟩
set_option maxRecDepth 65536 in
theorem wd9 {Z : State} {a0 : Array Value} (hw : ∀ d ∈ tables_1, d.before a0 Z = true) : (Jvm.Cond.classLink "com/example/educe/educe/index/PostingsBuffer" (11 : Nat) "java/util/HashMap").before a0 Z = true := hw _ (List.mem_of_getElem? (i := 9) rfl)
set_option maxRecDepth 65536 in
theorem wd11 {Z : State} {a0 : Array Value} (hw : ∀ d ∈ tables_1, d.before a0 Z = true) : (Jvm.Cond.initialized "java/util/HashMap").before a0 Z = true := hw _ (List.mem_of_getElem? (i := 11) rfl)
theorem dI_8 : Dc prog_46_method_1_code 8 .dup 1 9 := ⟨by decide +kernel, rfl⟩
theorem dI_9 : Dc prog_46_method_1_code 9 (.invokespecial 13) 3 12 := ⟨by decide +kernel, rfl⟩
set_option maxRecDepth 65536 in
theorem wd12 {Z : State} {a0 : Array Value} (hw : ∀ d ∈ tables_1, d.before a0 Z = true) : (Jvm.Cond.methodLink "com/example/educe/educe/index/PostingsBuffer" (13 : Nat) ({ cls := "java/util/HashMap", name := "<init>", desc := "()V" } : Jvm.MethodName)).before a0 Z = true := hw _ (List.mem_of_getElem? (i := 12) rfl)
set_option maxRecDepth 65536 in
theorem wd13 {Z : State} {a0 : Array Value} (hw : ∀ d ∈ tables_1, d.before a0 Z = true) : (Jvm.Cond.instanceMethod ({ cls := "java/util/HashMap", name := "<init>", desc := "()V" } : Jvm.MethodName)).before a0 Z = true := hw _ (List.mem_of_getElem? (i := 13) rfl)
set_option maxRecDepth 65536 in
theorem wd14 {Z : State} {a0 : Array Value} (hw : ∀ d ∈ tables_1, d.before a0 Z = true) : (Jvm.Cond.code ({ cls := "java/util/HashMap", name := "<init>", desc := "()V" } : Jvm.MethodName) jdk_69_method_7_code (1 : Nat) (Option.none : Option Jvm.ClassFile.FieldType)).before a0 Z = true := hw _ (List.mem_of_getElem? (i := 14) rfl)
theorem dI_12 : Dc prog_46_method_1_code 12 (.putfield 14) 3 15 := ⟨by decide +kernel, rfl⟩
set_option maxRecDepth 65536 in
theorem wd26 {Z : State} {a0 : Array Value} (hw : ∀ d ∈ tables_1, d.before a0 Z = true) : (Jvm.Cond.laysFinal "com/example/educe/educe/index/PostingsBuffer" "com/example/educe/educe/index/PostingsBuffer" "termIds" "Ljava/util/Map;").before a0 Z = true := hw _ (List.mem_of_getElem? (i := 26) rfl)
set_option maxRecDepth 65536 in
theorem wd25 {Z : State} {a0 : Array Value} (hw : ∀ d ∈ tables_1, d.before a0 Z = true) : (Jvm.Cond.fieldLink "com/example/educe/educe/index/PostingsBuffer" (14 : Nat) "com/example/educe/educe/index/PostingsBuffer" "termIds" "Ljava/util/Map;").before a0 Z = true := hw _ (List.mem_of_getElem? (i := 25) rfl)
set_option maxRecDepth 65536 in
theorem wd1 {Z : State} {a0 : Array Value} (hw : ∀ d ∈ tables_1, d.before a0 Z = true) : (Jvm.Cond.instantiable "com/example/educe/educe/index/PostingsBuffer" (10 : Nat)).before a0 Z = true := hw _ (List.mem_of_getElem? (i := 1) rfl)
set_option maxRecDepth 65536 in
theorem wd30 {Z : State} {a0 : Array Value} (hw : ∀ d ∈ tables_1, d.before a0 Z = true) : (Jvm.Cond.lays "com/example/educe/educe/index/PostingsBuffer" "com/example/educe/educe/index/PostingsBuffer" "terms" "[Ljava/lang/String;").before a0 Z = true := hw _ (List.mem_of_getElem? (i := 30) rfl)
set_option maxRecDepth 65536 in
theorem wd33 {Z : State} {a0 : Array Value} (hw : ∀ d ∈ tables_1, d.before a0 Z = true) : (Jvm.Cond.lays "com/example/educe/educe/index/PostingsBuffer" "com/example/educe/educe/index/PostingsBuffer" "firstPostings" "[I").before a0 Z = true := hw _ (List.mem_of_getElem? (i := 33) rfl)
set_option maxRecDepth 65536 in
theorem wd35 {Z : State} {a0 : Array Value} (hw : ∀ d ∈ tables_1, d.before a0 Z = true) : (Jvm.Cond.lays "com/example/educe/educe/index/PostingsBuffer" "com/example/educe/educe/index/PostingsBuffer" "lastPostings" "[I").before a0 Z = true := hw _ (List.mem_of_getElem? (i := 35) rfl)
set_option maxRecDepth 65536 in
theorem wd37 {Z : State} {a0 : Array Value} (hw : ∀ d ∈ tables_1, d.before a0 Z = true) : (Jvm.Cond.lays "com/example/educe/educe/index/PostingsBuffer" "com/example/educe/educe/index/PostingsBuffer" "documentFrequencies" "[I").before a0 Z = true := hw _ (List.mem_of_getElem? (i := 37) rfl)
set_option maxRecDepth 65536 in
theorem wd41 {Z : State} {a0 : Array Value} (hw : ∀ d ∈ tables_1, d.before a0 Z = true) : (Jvm.Cond.lays "com/example/educe/educe/index/PostingsBuffer" "com/example/educe/educe/index/PostingsBuffer" "pages" "[[I").before a0 Z = true := hw _ (List.mem_of_getElem? (i := 41) rfl)
set_option maxRecDepth 65536 in
theorem wd43 {Z : State} {a0 : Array Value} (hw : ∀ d ∈ tables_1, d.before a0 Z = true) : (Jvm.Cond.lays "com/example/educe/educe/index/PostingsBuffer" "com/example/educe/educe/index/PostingsBuffer" "positionPages" "[[I").before a0 Z = true := hw _ (List.mem_of_getElem? (i := 43) rfl)
set_option maxRecDepth 65536 in
theorem wd50 {Z : State} {a0 : Array Value} (hw : ∀ d ∈ tables_1, d.before a0 Z = true) : (Jvm.Cond.lays "com/example/educe/educe/index/PostingsBuffer" "com/example/educe/educe/index/PostingsBuffer" "bytes" "J").before a0 Z = true := hw _ (List.mem_of_getElem? (i := 50) rfl)
set_option maxRecDepth 65536 in
theorem wd52 {Z : State} {a0 : Array Value} (hw : ∀ d ∈ tables_1, d.before a0 Z = true) : (Jvm.Cond.lays "com/example/educe/educe/index/PostingsBuffer" "com/example/educe/educe/index/PostingsBuffer" "positionCount" "I").before a0 Z = true := hw _ (List.mem_of_getElem? (i := 52) rfl)
theorem dI_15 : Dc prog_46_method_1_code 15 (.aload_n 0) 1 16 := ⟨by decide +kernel, rfl⟩
theorem dI_16 : Dc prog_46_method_1_code 16 (.bipush 16) 2 18 := ⟨by decide +kernel, rfl⟩
theorem dI_18 : Dc prog_46_method_1_code 18 (.anewarray 18) 3 21 := ⟨by decide +kernel, rfl⟩
set_option maxRecDepth 65536 in
theorem wd28 {Z : State} {a0 : Array Value} (hw : ∀ d ∈ tables_1, d.before a0 Z = true) : (Jvm.Cond.arrayOver (Jvm.ClassFile.FieldType.object "java/lang/String")).before a0 Z = true := hw _ (List.mem_of_getElem? (i := 28) rfl)
set_option maxRecDepth 65536 in
theorem wd27 {Z : State} {a0 : Array Value} (hw : ∀ d ∈ tables_1, d.before a0 Z = true) : (Jvm.Cond.classLink "com/example/educe/educe/index/PostingsBuffer" (18 : Nat) "java/lang/String").before a0 Z = true := hw _ (List.mem_of_getElem? (i := 27) rfl)
theorem dI_21 : Dc prog_46_method_1_code 21 (.putfield 20) 3 24 := ⟨by decide +kernel, rfl⟩
set_option maxRecDepth 65536 in
theorem wd29 {Z : State} {a0 : Array Value} (hw : ∀ d ∈ tables_1, d.before a0 Z = true) : (Jvm.Cond.fieldLink "com/example/educe/educe/index/PostingsBuffer" (20 : Nat) "com/example/educe/educe/index/PostingsBuffer" "terms" "[Ljava/lang/String;").before a0 Z = true := hw _ (List.mem_of_getElem? (i := 29) rfl)
theorem dI_24 : Dc prog_46_method_1_code 24 (.aload_n 0) 1 25 := ⟨by decide +kernel, rfl⟩
theorem dI_25 : Dc prog_46_method_1_code 25 (.bipush 16) 2 27 := ⟨by decide +kernel, rfl⟩
theorem dI_27 : Dc prog_46_method_1_code 27 (.newarray .int) 2 29 := ⟨by decide +kernel, rfl⟩
set_option maxRecDepth 65536 in
theorem wd31 {Z : State} {a0 : Array Value} (hw : ∀ d ∈ tables_1, d.before a0 Z = true) : (Jvm.Cond.arrayClass Jvm.ClassFile.FieldType.int).before a0 Z = true := hw _ (List.mem_of_getElem? (i := 31) rfl)
theorem dI_29 : Dc prog_46_method_1_code 29 (.putfield 24) 3 32 := ⟨by decide +kernel, rfl⟩
set_option maxRecDepth 65536 in
theorem wd32 {Z : State} {a0 : Array Value} (hw : ∀ d ∈ tables_1, d.before a0 Z = true) : (Jvm.Cond.fieldLink "com/example/educe/educe/index/PostingsBuffer" (24 : Nat) "com/example/educe/educe/index/PostingsBuffer" "firstPostings" "[I").before a0 Z = true := hw _ (List.mem_of_getElem? (i := 32) rfl)
theorem dI_32 : Dc prog_46_method_1_code 32 (.aload_n 0) 1 33 := ⟨by decide +kernel, rfl⟩
theorem dI_33 : Dc prog_46_method_1_code 33 (.bipush 16) 2 35 := ⟨by decide +kernel, rfl⟩
theorem dI_35 : Dc prog_46_method_1_code 35 (.newarray .int) 2 37 := ⟨by decide +kernel, rfl⟩
theorem dI_37 : Dc prog_46_method_1_code 37 (.putfield 28) 3 40 := ⟨by decide +kernel, rfl⟩
set_option maxRecDepth 65536 in
theorem wd34 {Z : State} {a0 : Array Value} (hw : ∀ d ∈ tables_1, d.before a0 Z = true) : (Jvm.Cond.fieldLink "com/example/educe/educe/index/PostingsBuffer" (28 : Nat) "com/example/educe/educe/index/PostingsBuffer" "lastPostings" "[I").before a0 Z = true := hw _ (List.mem_of_getElem? (i := 34) rfl)
theorem dI_40 : Dc prog_46_method_1_code 40 (.aload_n 0) 1 41 := ⟨by decide +kernel, rfl⟩
theorem dI_41 : Dc prog_46_method_1_code 41 (.bipush 16) 2 43 := ⟨by decide +kernel, rfl⟩
theorem dI_43 : Dc prog_46_method_1_code 43 (.newarray .int) 2 45 := ⟨by decide +kernel, rfl⟩
theorem dI_45 : Dc prog_46_method_1_code 45 (.putfield 31) 3 48 := ⟨by decide +kernel, rfl⟩
set_option maxRecDepth 65536 in
theorem wd36 {Z : State} {a0 : Array Value} (hw : ∀ d ∈ tables_1, d.before a0 Z = true) : (Jvm.Cond.fieldLink "com/example/educe/educe/index/PostingsBuffer" (31 : Nat) "com/example/educe/educe/index/PostingsBuffer" "documentFrequencies" "[I").before a0 Z = true := hw _ (List.mem_of_getElem? (i := 36) rfl)
theorem dI_48 : Dc prog_46_method_1_code 48 (.aload_n 0) 1 49 := ⟨by decide +kernel, rfl⟩
theorem dI_49 : Dc prog_46_method_1_code 49 (.iconst 4) 1 50 := ⟨by decide +kernel, rfl⟩
theorem dI_50 : Dc prog_46_method_1_code 50 (.anewarray 34) 3 53 := ⟨by decide +kernel, rfl⟩
set_option maxRecDepth 65536 in
theorem wd39 {Z : State} {a0 : Array Value} (hw : ∀ d ∈ tables_1, d.before a0 Z = true) : (Jvm.Cond.arrayOver (Jvm.ClassFile.FieldType.array Jvm.ClassFile.FieldType.int)).before a0 Z = true := hw _ (List.mem_of_getElem? (i := 39) rfl)
set_option maxRecDepth 65536 in
theorem wd38 {Z : State} {a0 : Array Value} (hw : ∀ d ∈ tables_1, d.before a0 Z = true) : (Jvm.Cond.classLink "com/example/educe/educe/index/PostingsBuffer" (34 : Nat) "[I").before a0 Z = true := hw _ (List.mem_of_getElem? (i := 38) rfl)
theorem dI_53 : Dc prog_46_method_1_code 53 (.putfield 35) 3 56 := ⟨by decide +kernel, rfl⟩
set_option maxRecDepth 65536 in
theorem wd40 {Z : State} {a0 : Array Value} (hw : ∀ d ∈ tables_1, d.before a0 Z = true) : (Jvm.Cond.fieldLink "com/example/educe/educe/index/PostingsBuffer" (35 : Nat) "com/example/educe/educe/index/PostingsBuffer" "pages" "[[I").before a0 Z = true := hw _ (List.mem_of_getElem? (i := 40) rfl)
theorem dI_56 : Dc prog_46_method_1_code 56 (.aload_n 0) 1 57 := ⟨by decide +kernel, rfl⟩
theorem dI_57 : Dc prog_46_method_1_code 57 (.iconst 4) 1 58 := ⟨by decide +kernel, rfl⟩
theorem dI_58 : Dc prog_46_method_1_code 58 (.anewarray 34) 3 61 := ⟨by decide +kernel, rfl⟩
theorem dI_61 : Dc prog_46_method_1_code 61 (.putfield 39) 3 64 := ⟨by decide +kernel, rfl⟩
set_option maxRecDepth 65536 in
theorem wd42 {Z : State} {a0 : Array Value} (hw : ∀ d ∈ tables_1, d.before a0 Z = true) : (Jvm.Cond.fieldLink "com/example/educe/educe/index/PostingsBuffer" (39 : Nat) "com/example/educe/educe/index/PostingsBuffer" "positionPages" "[[I").before a0 Z = true := hw _ (List.mem_of_getElem? (i := 42) rfl)
theorem dI_64 : Dc prog_46_method_1_code 64 .return_ 1 65 := ⟨by decide +kernel, rfl⟩
theorem efI (m : MethodId) (x0 : Addr) : entryFrame m #[.ref x0] 1 = mkF m 0 #[.val (.ref x0)] [] := by first | (simp [entryFrame, mkF, argsToLocals, Value.category]; done) | rfl
theorem pnI : plainFor (⟨"com/example/educe/educe/index/PostingsBuffer", "<init>", "()V"⟩ : MethodName) = true := plainFor_of_name (by first | (simp [plainName, overriddenIn]; done) | decide +kernel)
theorem dF_0 : Dc prog_46_method_4_code 0 (.aload_n 0) 1 1 := ⟨by decide +kernel, rfl⟩
theorem dF_1 : Dc prog_46_method_4_code 1 (.getfield 107) 3 4 := ⟨by decide +kernel, rfl⟩
set_option maxRecDepth 65536 in
theorem wd49 {Z : State} {a0 : Array Value} (hw : ∀ d ∈ tables_1, d.before a0 Z = true) : (Jvm.Cond.fieldLink "com/example/educe/educe/index/PostingsBuffer" (107 : Nat) "com/example/educe/educe/index/PostingsBuffer" "bytes" "J").before a0 Z = true := hw _ (List.mem_of_getElem? (i := 49) rfl)
theorem dF_4 : Dc prog_46_method_4_code 4 (.lload_n 1) 1 5 := ⟨by decide +kernel, rfl⟩
theorem dF_5 : Dc prog_46_method_4_code 5 .lcmp 1 6 := ⟨by decide +kernel, rfl⟩
theorem dF_6 : Db prog_46_method_4_code 6 (.ifCond .ge 12) 12 9 18 := ⟨by decide +kernel, rfl, by decide, by decide⟩
theorem dF_9 : Dc prog_46_method_4_code 9 (.aload_n 0) 1 10 := ⟨by decide +kernel, rfl⟩
theorem dF_10 : Dc prog_46_method_4_code 10 (.getfield 98) 3 13 := ⟨by decide +kernel, rfl⟩
set_option maxRecDepth 65536 in
theorem wd51 {Z : State} {a0 : Array Value} (hw : ∀ d ∈ tables_1, d.before a0 Z = true) : (Jvm.Cond.fieldLink "com/example/educe/educe/index/PostingsBuffer" (98 : Nat) "com/example/educe/educe/index/PostingsBuffer" "positionCount" "I").before a0 Z = true := hw _ (List.mem_of_getElem? (i := 51) rfl)
theorem dF_13 : Dc prog_46_method_4_code 13 (.ldc 111) 2 15 := ⟨by decide +kernel, rfl⟩
set_option maxRecDepth 65536 in
theorem wd53 {Z : State} {a0 : Array Value} (hw : ∀ d ∈ tables_1, d.before a0 Z = true) : (Jvm.Cond.constant "com/example/educe/educe/index/PostingsBuffer" (111 : Nat) (1073741824 : Int32)).before a0 Z = true := hw _ (List.mem_of_getElem? (i := 53) rfl)
theorem dF_15 : Db prog_46_method_4_code 15 (.if_icmp .lt 7) 7 18 22 := ⟨by decide +kernel, rfl, by decide, by decide⟩
theorem dF_22 : Dc prog_46_method_4_code 22 (.iconst 0) 1 23 := ⟨by decide +kernel, rfl⟩
theorem dF_23 : Dc prog_46_method_4_code 23 .ireturn 1 24 := ⟨by decide +kernel, rfl⟩
theorem dF_18 : Dc prog_46_method_4_code 18 (.iconst 1) 1 19 := ⟨by decide +kernel, rfl⟩
theorem dF_19 : Db prog_46_method_4_code 19 (.goto 4) 4 22 23 := ⟨by decide +kernel, rfl, by decide, by decide⟩
theorem efF (m : MethodId) (x0 : Addr) (x1 : Int64) : entryFrame m #[.ref x0, .long x1] 3 = mkF m 0 #[.val (.ref x0), .val (.long x1), .second] [] := by first | (simp [entryFrame, mkF, argsToLocals, Value.category]; done) | rfl
theorem pnF : plainFor (⟨"com/example/educe/educe/index/PostingsBuffer", "isFull", "(J)Z"⟩ : MethodName) = true := plainFor_of_name (by first | (simp [plainName, overriddenIn]; done) | decide +kernel)
theorem d0_0 : Dc code 0 (.new 7) 3 3 := ⟨by decide +kernel, rfl⟩
set_option maxRecDepth 65536 in
theorem wd0 {Z : State} {a0 : Array Value} (hw : ∀ d ∈ tables_1, d.before a0 Z = true) : (Jvm.Cond.classLink "com/example/educe/educe/index/PostingsBufferIsFullPinLaw" (7 : Nat) "com/example/educe/educe/index/PostingsBuffer").before a0 Z = true := hw _ (List.mem_of_getElem? (i := 0) rfl)
set_option maxRecDepth 65536 in
theorem wd2 {Z : State} {a0 : Array Value} (hw : ∀ d ∈ tables_1, d.before a0 Z = true) : (Jvm.Cond.initialized "com/example/educe/educe/index/PostingsBuffer").before a0 Z = true := hw _ (List.mem_of_getElem? (i := 2) rfl)
theorem d0_3 : Dc code 3 .dup 1 4 := ⟨by decide +kernel, rfl⟩
theorem d0_4 : Dc code 4 (.invokespecial 9) 3 7 := ⟨by decide +kernel, rfl⟩
set_option maxRecDepth 65536 in
theorem wd3 {Z : State} {a0 : Array Value} (hw : ∀ d ∈ tables_1, d.before a0 Z = true) : (Jvm.Cond.methodLink "com/example/educe/educe/index/PostingsBufferIsFullPinLaw" (9 : Nat) ({ cls := "com/example/educe/educe/index/PostingsBuffer", name := "<init>", desc := "()V" } : Jvm.MethodName)).before a0 Z = true := hw _ (List.mem_of_getElem? (i := 3) rfl)
set_option maxRecDepth 65536 in
theorem wd4 {Z : State} {a0 : Array Value} (hw : ∀ d ∈ tables_1, d.before a0 Z = true) : (Jvm.Cond.instanceMethod ({ cls := "com/example/educe/educe/index/PostingsBuffer", name := "<init>", desc := "()V" } : Jvm.MethodName)).before a0 Z = true := hw _ (List.mem_of_getElem? (i := 4) rfl)
set_option maxRecDepth 65536 in
theorem wd5 {Z : State} {a0 : Array Value} (hw : ∀ d ∈ tables_1, d.before a0 Z = true) : (Jvm.Cond.code ({ cls := "com/example/educe/educe/index/PostingsBuffer", name := "<init>", desc := "()V" } : Jvm.MethodName) prog_46_method_1_code (1 : Nat) (Option.none : Option Jvm.ClassFile.FieldType)).before a0 Z = true := hw _ (List.mem_of_getElem? (i := 5) rfl)
theorem d0_7 : Dc code 7 (.astore 4) 2 9 := ⟨by decide +kernel, rfl⟩
theorem d0_9 : Dc code 9 (.aload 4) 2 11 := ⟨by decide +kernel, rfl⟩
theorem d0_11 : Dc code 11 (.lload_n 0) 1 12 := ⟨by decide +kernel, rfl⟩
theorem d0_12 : Dc code 12 (.invokevirtual 10) 3 15 := ⟨by decide +kernel, rfl⟩
theorem pd_2 : parseMethodDescriptor "(J)Z" = some ⟨[.long], some .boolean⟩ := by decide +kernel
set_option maxRecDepth 65536 in
theorem wd44 {Z : State} {a0 : Array Value} (hw : ∀ d ∈ tables_1, d.before a0 Z = true) : (Jvm.Cond.methodLink "com/example/educe/educe/index/PostingsBufferIsFullPinLaw" (10 : Nat) ({ cls := "com/example/educe/educe/index/PostingsBuffer", name := "isFull", desc := "(J)Z" } : Jvm.MethodName)).before a0 Z = true := hw _ (List.mem_of_getElem? (i := 44) rfl)
set_option maxRecDepth 65536 in
theorem wd45 {Z : State} {a0 : Array Value} (hw : ∀ d ∈ tables_1, d.before a0 Z = true) : (Jvm.Cond.declares ({ cls := "com/example/educe/educe/index/PostingsBuffer", name := "isFull", desc := "(J)Z" } : Jvm.MethodName)).before a0 Z = true := hw _ (List.mem_of_getElem? (i := 45) rfl)
set_option maxRecDepth 65536 in
theorem wd47 {Z : State} {a0 : Array Value} (hw : ∀ d ∈ tables_1, d.before a0 Z = true) : (Jvm.Cond.selects "com/example/educe/educe/index/PostingsBuffer" ({ cls := "com/example/educe/educe/index/PostingsBuffer", name := "isFull", desc := "(J)Z" } : Jvm.MethodName) ({ cls := "com/example/educe/educe/index/PostingsBuffer", name := "isFull", desc := "(J)Z" } : Jvm.MethodName)).before a0 Z = true := hw _ (List.mem_of_getElem? (i := 47) rfl)
set_option maxRecDepth 65536 in
theorem wd46 {Z : State} {a0 : Array Value} (hw : ∀ d ∈ tables_1, d.before a0 Z = true) : (Jvm.Cond.instanceMethod ({ cls := "com/example/educe/educe/index/PostingsBuffer", name := "isFull", desc := "(J)Z" } : Jvm.MethodName)).before a0 Z = true := hw _ (List.mem_of_getElem? (i := 46) rfl)
set_option maxRecDepth 65536 in
theorem wd48 {Z : State} {a0 : Array Value} (hw : ∀ d ∈ tables_1, d.before a0 Z = true) : (Jvm.Cond.code ({ cls := "com/example/educe/educe/index/PostingsBuffer", name := "isFull", desc := "(J)Z" } : Jvm.MethodName) prog_46_method_4_code (3 : Nat) (Option.some Jvm.ClassFile.FieldType.boolean)).before a0 Z = true := hw _ (List.mem_of_getElem? (i := 48) rfl)
theorem d0_15 : Dc code 15 (.istore 5) 2 17 := ⟨by decide +kernel, rfl⟩
theorem d0_17 : Dc code 17 (.aload 4) 2 19 := ⟨by decide +kernel, rfl⟩
theorem d0_19 : Dc code 19 (.lload_n 2) 1 20 := ⟨by decide +kernel, rfl⟩
theorem d0_20 : Dc code 20 (.invokevirtual 10) 3 23 := ⟨by decide +kernel, rfl⟩
theorem d0_23 : Dc code 23 (.istore 6) 2 25 := ⟨by decide +kernel, rfl⟩
theorem d0_25 : Dc code 25 (.iload 5) 2 27 := ⟨by decide +kernel, rfl⟩
theorem d0_27 : Dc code 27 (.lload_n 0) 1 28 := ⟨by decide +kernel, rfl⟩
theorem d0_28 : Dc code 28 (.lconst 0) 1 29 := ⟨by decide +kernel, rfl⟩
theorem d0_29 : Dc code 29 .lcmp 1 30 := ⟨by decide +kernel, rfl⟩
theorem d0_30 : Db code 30 (.ifCond .gt 7) 7 33 37 := ⟨by decide +kernel, rfl, by decide, by decide⟩
theorem d0_37 : Dc code 37 (.iconst 0) 1 38 := ⟨by decide +kernel, rfl⟩
theorem d0_33 : Dc code 33 (.iconst 1) 1 34 := ⟨by decide +kernel, rfl⟩
theorem d0_34 : Db code 34 (.goto 4) 4 37 38 := ⟨by decide +kernel, rfl, by decide, by decide⟩
theorem d0_38 : Db code 38 (.if_icmp .ne 23) 23 41 61 := ⟨by decide +kernel, rfl, by decide, by decide⟩
theorem d0_41 : Dc code 41 (.iload 6) 2 43 := ⟨by decide +kernel, rfl⟩
theorem d0_43 : Dc code 43 (.lload_n 2) 1 44 := ⟨by decide +kernel, rfl⟩
theorem d0_44 : Dc code 44 (.lconst 0) 1 45 := ⟨by decide +kernel, rfl⟩
theorem d0_45 : Dc code 45 .lcmp 1 46 := ⟨by decide +kernel, rfl⟩
theorem d0_46 : Db code 46 (.ifCond .gt 7) 7 49 53 := ⟨by decide +kernel, rfl, by decide, by decide⟩
theorem d0_53 : Dc code 53 (.iconst 0) 1 54 := ⟨by decide +kernel, rfl⟩
theorem d0_49 : Dc code 49 (.iconst 1) 1 50 := ⟨by decide +kernel, rfl⟩
theorem d0_50 : Db code 50 (.goto 4) 4 53 54 := ⟨by decide +kernel, rfl, by decide, by decide⟩
theorem d0_54 : Db code 54 (.if_icmp .ne 7) 7 57 61 := ⟨by decide +kernel, rfl, by decide, by decide⟩
theorem d0_57 : Dc code 57 (.iconst 1) 1 58 := ⟨by decide +kernel, rfl⟩
theorem d0_58 : Db code 58 (.goto 4) 4 61 62 := ⟨by decide +kernel, rfl, by decide, by decide⟩
theorem d0_62 : Dc code 62 .ireturn 1 63 := ⟨by decide +kernel, rfl⟩
theorem ef0 (m : MethodId) (x0 : Int64) (x1 : Int64) : entryFrame m #[.long x0, .long x1] maxLocals = mkF m 0 #[.val (.long x0), .second, .val (.long x1), .second, .unset, .unset, .unset] [] := by first | (simp [entryFrame, mkF, argsToLocals, Value.category, maxLocals]; done) | rfl
theorem pn0 : plainFor (x : MethodName) = true := plainFor_of_name (by show plainName "com/example/educe/educe/index/PostingsBufferIsFullPinLaw" = true; first | (simp [plainName, overriddenIn]; done) | decide +kernel)
def own_full (n : Int64) : Int32 := if (0 : Int64) < n then 0 else 1
theorem own_f0 {n : Int64} (h : (0 : Int64) < n) : own_full n = 0 := if_pos h
theorem own_f1 {n : Int64} (h : ¬ (0 : Int64) < n) : own_full n = 1 := if_neg h

set_option maxRecDepth 65536 in
set_option maxHeartbeats 40000000 in
theorem rmM (l : Launch) (Z : State) (a0 : Array Value) (hw : ∀ d ∈ tables_1, d.before a0 Z = true) (a : Addr) (h : Heap) (n0 : Nat)  : Con l Z ⟨"java/util/AbstractMap", "<init>", "()V"⟩ jdk_71_method_1_code 1 none ({ frames := 1, cells := 0, slots := 0, locals := 12 } : Room) #[.ref a] h n0 (fun vr h' => vr = none ∧ h' = h) := by
  refine Con.of pnM (fun m_ => efM m_ a) (fun E K => ?_)
  refine K.aloadN dM_0 rfl rfl ?_
  refine K.initO 0 dM_1 (wd21 hw) (wd7 hw) (wd8 hw) rfl (by decide) (Nat.le_of_eq rfl) (by decide) ?_
  exact K.ret dM_4 (by decide) (by decide) ⟨rfl, rfl⟩
set_option maxRecDepth 65536 in
set_option maxHeartbeats 40000000 in
theorem rmH (l : Launch) (Z : State) (a0 : Array Value) (hw : ∀ d ∈ tables_1, d.before a0 Z = true) (a : Addr) (h : Heap) (n0 : Nat) (P0 : Exa Z h a "java/util/HashMap") (P1 : Fld Z h a "java/util/HashMap" "loadFactor" "F" (.float (0 : UInt32))) (P2 : n0 ≤ a) : Con l Z ⟨"java/util/HashMap", "<init>", "()V"⟩ jdk_69_method_7_code 1 none ({ frames := 2, cells := 0, slots := 0, locals := 24 } : Room) #[.ref a] h n0 (fun vr h' => vr = none ∧ (Keep h h' [a])) := by
  refine Con.of pnH (fun m_ => efH m_ a) (fun E K => ?_)
  have K1 : Keep h h [a] := Keep.refl _ _
  refine K.aloadN dH_0 rfl rfl ?_
  refine K.callI (a := a) [] [] 0 0 0 dH_1 rfl rfl (wd15 hw) (wd16 hw) (wd19 hw) (wd20 hw) (by decide) (rmM l Z a0 hw a h n0 ) rfl (lenOf pd_1 rfl) rfl (Nat.le_of_eq rfl) (by decide) (by decide) rfl rfl (by decide) (by decide) (goN ?_)
  refine K.aloadN dH_4 rfl rfl ?_
  refine K.ldcF dH_5 (wd22 hw) ?_
  refine K.putF dH_7 (wd23 hw) P1 P0 (Or.inr ⟨(wd24 hw), rfl, rfl⟩) (wd10 hw) (ty := .float) (by decide) rfl rfl P2 (fun h2 W3 => ?_)
  have K4 := K1.wr W3 (Or.inl (List.mem_of_getElem? (i := 0) rfl))
  have E5 := P0.wr W3
  have F6 := P1.same W3
  exact K.ret dH_10 (by decide) (by decide) ⟨rfl, K4⟩
set_option maxRecDepth 65536 in
set_option maxHeartbeats 40000000 in
theorem rmI (l : Launch) (Z : State) (a0 : Array Value) (hw : ∀ d ∈ tables_1, d.before a0 Z = true) (a : Addr) (h : Heap) (n0 : Nat) (P0 : Exa Z h a "com/example/educe/educe/index/PostingsBuffer") (P1 : Fld Z h a "com/example/educe/educe/index/PostingsBuffer" "termIds" "Ljava/util/Map;" .null) (P2 : Fld Z h a "com/example/educe/educe/index/PostingsBuffer" "terms" "[Ljava/lang/String;" .null) (P3 : Fld Z h a "com/example/educe/educe/index/PostingsBuffer" "firstPostings" "[I" .null) (P4 : Fld Z h a "com/example/educe/educe/index/PostingsBuffer" "lastPostings" "[I" .null) (P5 : Fld Z h a "com/example/educe/educe/index/PostingsBuffer" "documentFrequencies" "[I" .null) (P6 : Fld Z h a "com/example/educe/educe/index/PostingsBuffer" "pages" "[[I" .null) (P7 : Fld Z h a "com/example/educe/educe/index/PostingsBuffer" "positionPages" "[[I" .null) (P8 : Fld Z h a "com/example/educe/educe/index/PostingsBuffer" "bytes" "J" (.long (0 : Int64))) (P9 : Fld Z h a "com/example/educe/educe/index/PostingsBuffer" "positionCount" "I" (.int (0 : Int32))) (P10 : n0 ≤ a) : Con l Z ⟨"com/example/educe/educe/index/PostingsBuffer", "<init>", "()V"⟩ prog_46_method_1_code 1 none ({ frames := 3, cells := 7, slots := 80, locals := 38 } : Room) #[.ref a] h n0 (fun vr h' => vr = none ∧ (Keep h h' [a] ∧ Exa Z h' a "com/example/educe/educe/index/PostingsBuffer" ∧ Fld Z h' a "com/example/educe/educe/index/PostingsBuffer" "bytes" "J" (.long (0 : Int64)) ∧ Fld Z h' a "com/example/educe/educe/index/PostingsBuffer" "positionCount" "I" (.int (0 : Int32)))) := by
  refine Con.of pnI (fun m_ => efI m_ a) (fun E K => ?_)
  have K1 : Keep h h [a] := Keep.refl _ _
  refine K.aloadN dI_0 rfl rfl ?_
  refine K.initO 0 dI_1 (wd6 hw) (wd7 hw) (wd8 hw) rfl (by decide) (Nat.le_of_eq rfl) (by decide) ?_
  refine K.aloadN dI_4 rfl rfl ?_
  refine K.newO 1 8 dI_5 (wd9 hw) (wd10 hw) (wd11 hw) rfl rfl (by decide) (by decide) (fun h3 a2 ha4 g5 X6 A7 D8 => ?_)
  have ks_a2 := ha_ge K1.1 ha4
  have lt_a_a2 : a < a2 := by rw [ha4]; exact P0.lt
  have K9 := K1.ext X6
  have E10 := P0.ext X6
  have F11 := P1.ext X6
  have F12 := P2.ext X6
  have F13 := P3.ext X6
  have F14 := P4.ext X6
  have F15 := P5.ext X6
  have F16 := P6.ext X6
  have F17 := P7.ext X6
  have F18 := P8.ext X6
  have F19 := P9.ext X6
  have F20 : Fld Z h3 a2 "java/util/HashMap" "loadFactor" "F" (.float (0 : UInt32)) := D8 (Or.inr (wd24 hw)) (ty := .float) (by decide)
  refine K.dup dI_8 rfl ?_
  refine K.callI (a := a2) [] [.ref a2, .ref a] 2 1 8 dI_9 rfl rfl (wd12 hw) (wd13 hw) (wd11 hw) (wd14 hw) (by decide) (rmH l Z a0 hw a2 h3 n0 A7 F20 g5) rfl (lenOf pd_1 rfl) rfl (Nat.le_of_eq rfl) (by decide) (by decide) rfl rfl (by decide) (by decide) (goU fun h21 q22 => ?_)
  have K23 := q22
  have K24 := K9.trans K23 (allS (Or.inr ks_a2) all0)
  have E25 := E10.keep K23
  have F26 := F11.keep K23 (ninS (Nat.ne_of_lt lt_a_a2) nin0)
  have F27 := F12.keep K23 (ninS (Nat.ne_of_lt lt_a_a2) nin0)
  have F28 := F13.keep K23 (ninS (Nat.ne_of_lt lt_a_a2) nin0)
  have F29 := F14.keep K23 (ninS (Nat.ne_of_lt lt_a_a2) nin0)
  have F30 := F15.keep K23 (ninS (Nat.ne_of_lt lt_a_a2) nin0)
  have F31 := F16.keep K23 (ninS (Nat.ne_of_lt lt_a_a2) nin0)
  have F32 := F17.keep K23 (ninS (Nat.ne_of_lt lt_a_a2) nin0)
  have F33 := F18.keep K23 (ninS (Nat.ne_of_lt lt_a_a2) nin0)
  have F34 := F19.keep K23 (ninS (Nat.ne_of_lt lt_a_a2) nin0)
  have E35 := A7.keep K23
  refine K.putF dI_12 (wd25 hw) F26 E25 (Or.inr ⟨(wd26 hw), rfl, rfl⟩) (wd1 hw) (ty := (.object "java/util/Map")) (by decide) rfl rfl P10 (fun h36 W37 => ?_)
  have K38 := K24.wr W37 (Or.inl (List.mem_of_getElem? (i := 0) rfl))
  have E39 := E25.wr W37
  have F40 := F26.same W37
  have F41 := F27.other W37 (Or.inr (RoadKit.slot_ne (Or.inl (wd30 hw)) (Or.inr (wd26 hw)) (by decide) (t := (.array (.object "java/lang/String"))) (t' := (.object "java/util/Map")) (by decide) (by decide)))
  have F42 := F28.other W37 (Or.inr (RoadKit.slot_ne (Or.inl (wd33 hw)) (Or.inr (wd26 hw)) (by decide) (t := (.array .int)) (t' := (.object "java/util/Map")) (by decide) (by decide)))
  have F43 := F29.other W37 (Or.inr (RoadKit.slot_ne (Or.inl (wd35 hw)) (Or.inr (wd26 hw)) (by decide) (t := (.array .int)) (t' := (.object "java/util/Map")) (by decide) (by decide)))
  have F44 := F30.other W37 (Or.inr (RoadKit.slot_ne (Or.inl (wd37 hw)) (Or.inr (wd26 hw)) (by decide) (t := (.array .int)) (t' := (.object "java/util/Map")) (by decide) (by decide)))
  have F45 := F31.other W37 (Or.inr (RoadKit.slot_ne (Or.inl (wd41 hw)) (Or.inr (wd26 hw)) (by decide) (t := (.array (.array .int))) (t' := (.object "java/util/Map")) (by decide) (by decide)))
  have F46 := F32.other W37 (Or.inr (RoadKit.slot_ne (Or.inl (wd43 hw)) (Or.inr (wd26 hw)) (by decide) (t := (.array (.array .int))) (t' := (.object "java/util/Map")) (by decide) (by decide)))
  have F47 := F33.other W37 (Or.inr (RoadKit.slot_ne (Or.inl (wd50 hw)) (Or.inr (wd26 hw)) (by decide) (t := .long) (t' := (.object "java/util/Map")) (by decide) (by decide)))
  have F48 := F34.other W37 (Or.inr (RoadKit.slot_ne (Or.inl (wd52 hw)) (Or.inr (wd26 hw)) (by decide) (t := .int) (t' := (.object "java/util/Map")) (by decide) (by decide)))
  have E49 := E35.wr W37
  refine K.aloadN dI_15 rfl rfl ?_
  refine K.bipush (16 : Int32) dI_16 rfl ?_
  refine K.newR 16 2 24 dI_18 (wd27 hw) (wd28 hw) (by decide) (by decide) (by decide) rfl rfl (by decide) (by decide) (fun h51 a50 ha52 g53 X54 A55 => ?_)
  have ks_a50 := ha_ge K38.1 ha52
  have lt_a_a50 : a < a50 := by rw [ha52]; exact E39.lt
  have lt_a2_a50 : a2 < a50 := by rw [ha52]; exact E49.lt
  have K56 := K38.ext X54
  have E57 := E39.ext X54
  have F58 := F40.ext X54
  have F59 := F41.ext X54
  have F60 := F42.ext X54
  have F61 := F43.ext X54
  have F62 := F44.ext X54
  have F63 := F45.ext X54
  have F64 := F46.ext X54
  have F65 := F47.ext X54
  have F66 := F48.ext X54
  have E67 := E49.ext X54
  refine K.putF dI_21 (wd29 hw) F59 E57 (Or.inl (wd30 hw)) (wd1 hw) (ty := (.array (.object "java/lang/String"))) (by decide) rfl rfl P10 (fun h68 W69 => ?_)
  have K70 := K56.wr W69 (Or.inl (List.mem_of_getElem? (i := 0) rfl))
  have E71 := E57.wr W69
  have F72 := F58.other W69 (Or.inr (RoadKit.slot_ne (Or.inr (wd26 hw)) (Or.inl (wd30 hw)) (by decide) (t := (.object "java/util/Map")) (t' := (.array (.object "java/lang/String"))) (by decide) (by decide)))
  have F73 := F59.same W69
  have F74 := F60.other W69 (Or.inr (RoadKit.slot_ne (Or.inl (wd33 hw)) (Or.inl (wd30 hw)) (by decide) (t := (.array .int)) (t' := (.array (.object "java/lang/String"))) (by decide) (by decide)))
  have F75 := F61.other W69 (Or.inr (RoadKit.slot_ne (Or.inl (wd35 hw)) (Or.inl (wd30 hw)) (by decide) (t := (.array .int)) (t' := (.array (.object "java/lang/String"))) (by decide) (by decide)))
  have F76 := F62.other W69 (Or.inr (RoadKit.slot_ne (Or.inl (wd37 hw)) (Or.inl (wd30 hw)) (by decide) (t := (.array .int)) (t' := (.array (.object "java/lang/String"))) (by decide) (by decide)))
  have F77 := F63.other W69 (Or.inr (RoadKit.slot_ne (Or.inl (wd41 hw)) (Or.inl (wd30 hw)) (by decide) (t := (.array (.array .int))) (t' := (.array (.object "java/lang/String"))) (by decide) (by decide)))
  have F78 := F64.other W69 (Or.inr (RoadKit.slot_ne (Or.inl (wd43 hw)) (Or.inl (wd30 hw)) (by decide) (t := (.array (.array .int))) (t' := (.array (.object "java/lang/String"))) (by decide) (by decide)))
  have F79 := F65.other W69 (Or.inr (RoadKit.slot_ne (Or.inl (wd50 hw)) (Or.inl (wd30 hw)) (by decide) (t := .long) (t' := (.array (.object "java/lang/String"))) (by decide) (by decide)))
  have F80 := F66.other W69 (Or.inr (RoadKit.slot_ne (Or.inl (wd52 hw)) (Or.inl (wd30 hw)) (by decide) (t := .int) (t' := (.array (.object "java/lang/String"))) (by decide) (by decide)))
  have E81 := E67.wr W69
  have I82 := A55.other W69 (Nat.ne_of_gt lt_a_a50)
  refine K.aloadN dI_24 rfl rfl ?_
  refine K.bipush (16 : Int32) dI_25 rfl ?_
  refine K.newP (ty := .int) (dv := .int 0) 16 3 40 dI_27 (wd31 hw) rfl rfl (by decide) (by decide) (by decide) rfl rfl (by decide) (by decide) (fun h84 a83 ha85 g86 X87 A88 => ?_)
  have ks_a83 := ha_ge K70.1 ha85
  have lt_a_a83 : a < a83 := by rw [ha85]; exact E71.lt
  have lt_a2_a83 : a2 < a83 := by rw [ha85]; exact E81.lt
  have lt_a50_a83 : a50 < a83 := by rw [ha85]; exact I82.lt
  have K89 := K70.ext X87
  have E90 := E71.ext X87
  have F91 := F72.ext X87
  have F92 := F73.ext X87
  have F93 := F74.ext X87
  have F94 := F75.ext X87
  have F95 := F76.ext X87
  have F96 := F77.ext X87
  have F97 := F78.ext X87
  have F98 := F79.ext X87
  have F99 := F80.ext X87
  have E100 := E81.ext X87
  have I101 := I82.ext X87
  refine K.putF dI_29 (wd32 hw) F93 E90 (Or.inl (wd33 hw)) (wd1 hw) (ty := (.array .int)) (by decide) rfl rfl P10 (fun h102 W103 => ?_)
  have K104 := K89.wr W103 (Or.inl (List.mem_of_getElem? (i := 0) rfl))
  have E105 := E90.wr W103
  have F106 := F91.other W103 (Or.inr (RoadKit.slot_ne (Or.inr (wd26 hw)) (Or.inl (wd33 hw)) (by decide) (t := (.object "java/util/Map")) (t' := (.array .int)) (by decide) (by decide)))
  have F107 := F92.other W103 (Or.inr (RoadKit.slot_ne (Or.inl (wd30 hw)) (Or.inl (wd33 hw)) (by decide) (t := (.array (.object "java/lang/String"))) (t' := (.array .int)) (by decide) (by decide)))
  have F108 := F93.same W103
  have F109 := F94.other W103 (Or.inr (RoadKit.slot_ne (Or.inl (wd35 hw)) (Or.inl (wd33 hw)) (by decide) (t := (.array .int)) (t' := (.array .int)) (by decide) (by decide)))
  have F110 := F95.other W103 (Or.inr (RoadKit.slot_ne (Or.inl (wd37 hw)) (Or.inl (wd33 hw)) (by decide) (t := (.array .int)) (t' := (.array .int)) (by decide) (by decide)))
  have F111 := F96.other W103 (Or.inr (RoadKit.slot_ne (Or.inl (wd41 hw)) (Or.inl (wd33 hw)) (by decide) (t := (.array (.array .int))) (t' := (.array .int)) (by decide) (by decide)))
  have F112 := F97.other W103 (Or.inr (RoadKit.slot_ne (Or.inl (wd43 hw)) (Or.inl (wd33 hw)) (by decide) (t := (.array (.array .int))) (t' := (.array .int)) (by decide) (by decide)))
  have F113 := F98.other W103 (Or.inr (RoadKit.slot_ne (Or.inl (wd50 hw)) (Or.inl (wd33 hw)) (by decide) (t := .long) (t' := (.array .int)) (by decide) (by decide)))
  have F114 := F99.other W103 (Or.inr (RoadKit.slot_ne (Or.inl (wd52 hw)) (Or.inl (wd33 hw)) (by decide) (t := .int) (t' := (.array .int)) (by decide) (by decide)))
  have E115 := E100.wr W103
  have I116 := I101.other W103 (Nat.ne_of_gt lt_a_a50)
  have I117 := A88.other W103 (Nat.ne_of_gt lt_a_a83)
  refine K.aloadN dI_32 rfl rfl ?_
  refine K.bipush (16 : Int32) dI_33 rfl ?_
  refine K.newP (ty := .int) (dv := .int 0) 16 4 56 dI_35 (wd31 hw) rfl rfl (by decide) (by decide) (by decide) rfl rfl (by decide) (by decide) (fun h119 a118 ha120 g121 X122 A123 => ?_)
  have ks_a118 := ha_ge K104.1 ha120
  have lt_a_a118 : a < a118 := by rw [ha120]; exact E105.lt
  have lt_a2_a118 : a2 < a118 := by rw [ha120]; exact E115.lt
  have lt_a50_a118 : a50 < a118 := by rw [ha120]; exact I116.lt
  have lt_a83_a118 : a83 < a118 := by rw [ha120]; exact I117.lt
  have K124 := K104.ext X122
  have E125 := E105.ext X122
  have F126 := F106.ext X122
  have F127 := F107.ext X122
  have F128 := F108.ext X122
  have F129 := F109.ext X122
  have F130 := F110.ext X122
  have F131 := F111.ext X122
  have F132 := F112.ext X122
  have F133 := F113.ext X122
  have F134 := F114.ext X122
  have E135 := E115.ext X122
  have I136 := I116.ext X122
  have I137 := I117.ext X122
  refine K.putF dI_37 (wd34 hw) F129 E125 (Or.inl (wd35 hw)) (wd1 hw) (ty := (.array .int)) (by decide) rfl rfl P10 (fun h138 W139 => ?_)
  have K140 := K124.wr W139 (Or.inl (List.mem_of_getElem? (i := 0) rfl))
  have E141 := E125.wr W139
  have F142 := F126.other W139 (Or.inr (RoadKit.slot_ne (Or.inr (wd26 hw)) (Or.inl (wd35 hw)) (by decide) (t := (.object "java/util/Map")) (t' := (.array .int)) (by decide) (by decide)))
  have F143 := F127.other W139 (Or.inr (RoadKit.slot_ne (Or.inl (wd30 hw)) (Or.inl (wd35 hw)) (by decide) (t := (.array (.object "java/lang/String"))) (t' := (.array .int)) (by decide) (by decide)))
  have F144 := F128.other W139 (Or.inr (RoadKit.slot_ne (Or.inl (wd33 hw)) (Or.inl (wd35 hw)) (by decide) (t := (.array .int)) (t' := (.array .int)) (by decide) (by decide)))
  have F145 := F129.same W139
  have F146 := F130.other W139 (Or.inr (RoadKit.slot_ne (Or.inl (wd37 hw)) (Or.inl (wd35 hw)) (by decide) (t := (.array .int)) (t' := (.array .int)) (by decide) (by decide)))
  have F147 := F131.other W139 (Or.inr (RoadKit.slot_ne (Or.inl (wd41 hw)) (Or.inl (wd35 hw)) (by decide) (t := (.array (.array .int))) (t' := (.array .int)) (by decide) (by decide)))
  have F148 := F132.other W139 (Or.inr (RoadKit.slot_ne (Or.inl (wd43 hw)) (Or.inl (wd35 hw)) (by decide) (t := (.array (.array .int))) (t' := (.array .int)) (by decide) (by decide)))
  have F149 := F133.other W139 (Or.inr (RoadKit.slot_ne (Or.inl (wd50 hw)) (Or.inl (wd35 hw)) (by decide) (t := .long) (t' := (.array .int)) (by decide) (by decide)))
  have F150 := F134.other W139 (Or.inr (RoadKit.slot_ne (Or.inl (wd52 hw)) (Or.inl (wd35 hw)) (by decide) (t := .int) (t' := (.array .int)) (by decide) (by decide)))
  have E151 := E135.wr W139
  have I152 := I136.other W139 (Nat.ne_of_gt lt_a_a50)
  have I153 := I137.other W139 (Nat.ne_of_gt lt_a_a83)
  have I154 := A123.other W139 (Nat.ne_of_gt lt_a_a118)
  refine K.aloadN dI_40 rfl rfl ?_
  refine K.bipush (16 : Int32) dI_41 rfl ?_
  refine K.newP (ty := .int) (dv := .int 0) 16 5 72 dI_43 (wd31 hw) rfl rfl (by decide) (by decide) (by decide) rfl rfl (by decide) (by decide) (fun h156 a155 ha157 g158 X159 A160 => ?_)
  have ks_a155 := ha_ge K140.1 ha157
  have lt_a_a155 : a < a155 := by rw [ha157]; exact E141.lt
  have lt_a118_a155 : a118 < a155 := by rw [ha157]; exact I154.lt
  have lt_a2_a155 : a2 < a155 := by rw [ha157]; exact E151.lt
  have lt_a50_a155 : a50 < a155 := by rw [ha157]; exact I152.lt
  have lt_a83_a155 : a83 < a155 := by rw [ha157]; exact I153.lt
  have K161 := K140.ext X159
  have E162 := E141.ext X159
  have F163 := F142.ext X159
  have F164 := F143.ext X159
  have F165 := F144.ext X159
  have F166 := F145.ext X159
  have F167 := F146.ext X159
  have F168 := F147.ext X159
  have F169 := F148.ext X159
  have F170 := F149.ext X159
  have F171 := F150.ext X159
  have E172 := E151.ext X159
  have I173 := I152.ext X159
  have I174 := I153.ext X159
  have I175 := I154.ext X159
  refine K.putF dI_45 (wd36 hw) F167 E162 (Or.inl (wd37 hw)) (wd1 hw) (ty := (.array .int)) (by decide) rfl rfl P10 (fun h176 W177 => ?_)
  have K178 := K161.wr W177 (Or.inl (List.mem_of_getElem? (i := 0) rfl))
  have E179 := E162.wr W177
  have F180 := F163.other W177 (Or.inr (RoadKit.slot_ne (Or.inr (wd26 hw)) (Or.inl (wd37 hw)) (by decide) (t := (.object "java/util/Map")) (t' := (.array .int)) (by decide) (by decide)))
  have F181 := F164.other W177 (Or.inr (RoadKit.slot_ne (Or.inl (wd30 hw)) (Or.inl (wd37 hw)) (by decide) (t := (.array (.object "java/lang/String"))) (t' := (.array .int)) (by decide) (by decide)))
  have F182 := F165.other W177 (Or.inr (RoadKit.slot_ne (Or.inl (wd33 hw)) (Or.inl (wd37 hw)) (by decide) (t := (.array .int)) (t' := (.array .int)) (by decide) (by decide)))
  have F183 := F166.other W177 (Or.inr (RoadKit.slot_ne (Or.inl (wd35 hw)) (Or.inl (wd37 hw)) (by decide) (t := (.array .int)) (t' := (.array .int)) (by decide) (by decide)))
  have F184 := F167.same W177
  have F185 := F168.other W177 (Or.inr (RoadKit.slot_ne (Or.inl (wd41 hw)) (Or.inl (wd37 hw)) (by decide) (t := (.array (.array .int))) (t' := (.array .int)) (by decide) (by decide)))
  have F186 := F169.other W177 (Or.inr (RoadKit.slot_ne (Or.inl (wd43 hw)) (Or.inl (wd37 hw)) (by decide) (t := (.array (.array .int))) (t' := (.array .int)) (by decide) (by decide)))
  have F187 := F170.other W177 (Or.inr (RoadKit.slot_ne (Or.inl (wd50 hw)) (Or.inl (wd37 hw)) (by decide) (t := .long) (t' := (.array .int)) (by decide) (by decide)))
  have F188 := F171.other W177 (Or.inr (RoadKit.slot_ne (Or.inl (wd52 hw)) (Or.inl (wd37 hw)) (by decide) (t := .int) (t' := (.array .int)) (by decide) (by decide)))
  have E189 := E172.wr W177
  have I190 := I173.other W177 (Nat.ne_of_gt lt_a_a50)
  have I191 := I174.other W177 (Nat.ne_of_gt lt_a_a83)
  have I192 := I175.other W177 (Nat.ne_of_gt lt_a_a118)
  have I193 := A160.other W177 (Nat.ne_of_gt lt_a_a155)
  refine K.aloadN dI_48 rfl rfl ?_
  refine K.iconst (4 : Int32) dI_49 rfl ?_
  refine K.newRA (ty := .int) 4 6 76 dI_50 rfl (wd38 hw) (wd39 hw) (by decide) (by decide) (by decide) rfl rfl (by decide) (by decide) (fun h195 a194 ha196 g197 X198 A199 => ?_)
  have ks_a194 := ha_ge K178.1 ha196
  have lt_a_a194 : a < a194 := by rw [ha196]; exact E179.lt
  have lt_a118_a194 : a118 < a194 := by rw [ha196]; exact I192.lt
  have lt_a155_a194 : a155 < a194 := by rw [ha196]; exact I193.lt
  have lt_a2_a194 : a2 < a194 := by rw [ha196]; exact E189.lt
  have lt_a50_a194 : a50 < a194 := by rw [ha196]; exact I190.lt
  have lt_a83_a194 : a83 < a194 := by rw [ha196]; exact I191.lt
  have K200 := K178.ext X198
  have E201 := E179.ext X198
  have F202 := F180.ext X198
  have F203 := F181.ext X198
  have F204 := F182.ext X198
  have F205 := F183.ext X198
  have F206 := F184.ext X198
  have F207 := F185.ext X198
  have F208 := F186.ext X198
  have F209 := F187.ext X198
  have F210 := F188.ext X198
  have E211 := E189.ext X198
  have I212 := I190.ext X198
  have I213 := I191.ext X198
  have I214 := I192.ext X198
  have I215 := I193.ext X198
  refine K.putF dI_53 (wd40 hw) F207 E201 (Or.inl (wd41 hw)) (wd1 hw) (ty := (.array (.array .int))) (by decide) rfl rfl P10 (fun h216 W217 => ?_)
  have K218 := K200.wr W217 (Or.inl (List.mem_of_getElem? (i := 0) rfl))
  have E219 := E201.wr W217
  have F220 := F202.other W217 (Or.inr (RoadKit.slot_ne (Or.inr (wd26 hw)) (Or.inl (wd41 hw)) (by decide) (t := (.object "java/util/Map")) (t' := (.array (.array .int))) (by decide) (by decide)))
  have F221 := F203.other W217 (Or.inr (RoadKit.slot_ne (Or.inl (wd30 hw)) (Or.inl (wd41 hw)) (by decide) (t := (.array (.object "java/lang/String"))) (t' := (.array (.array .int))) (by decide) (by decide)))
  have F222 := F204.other W217 (Or.inr (RoadKit.slot_ne (Or.inl (wd33 hw)) (Or.inl (wd41 hw)) (by decide) (t := (.array .int)) (t' := (.array (.array .int))) (by decide) (by decide)))
  have F223 := F205.other W217 (Or.inr (RoadKit.slot_ne (Or.inl (wd35 hw)) (Or.inl (wd41 hw)) (by decide) (t := (.array .int)) (t' := (.array (.array .int))) (by decide) (by decide)))
  have F224 := F206.other W217 (Or.inr (RoadKit.slot_ne (Or.inl (wd37 hw)) (Or.inl (wd41 hw)) (by decide) (t := (.array .int)) (t' := (.array (.array .int))) (by decide) (by decide)))
  have F225 := F207.same W217
  have F226 := F208.other W217 (Or.inr (RoadKit.slot_ne (Or.inl (wd43 hw)) (Or.inl (wd41 hw)) (by decide) (t := (.array (.array .int))) (t' := (.array (.array .int))) (by decide) (by decide)))
  have F227 := F209.other W217 (Or.inr (RoadKit.slot_ne (Or.inl (wd50 hw)) (Or.inl (wd41 hw)) (by decide) (t := .long) (t' := (.array (.array .int))) (by decide) (by decide)))
  have F228 := F210.other W217 (Or.inr (RoadKit.slot_ne (Or.inl (wd52 hw)) (Or.inl (wd41 hw)) (by decide) (t := .int) (t' := (.array (.array .int))) (by decide) (by decide)))
  have E229 := E211.wr W217
  have I230 := I212.other W217 (Nat.ne_of_gt lt_a_a50)
  have I231 := I213.other W217 (Nat.ne_of_gt lt_a_a83)
  have I232 := I214.other W217 (Nat.ne_of_gt lt_a_a118)
  have I233 := I215.other W217 (Nat.ne_of_gt lt_a_a155)
  have I234 := A199.other W217 (Nat.ne_of_gt lt_a_a194)
  refine K.aloadN dI_56 rfl rfl ?_
  refine K.iconst (4 : Int32) dI_57 rfl ?_
  refine K.newRA (ty := .int) 4 7 80 dI_58 rfl (wd38 hw) (wd39 hw) (by decide) (by decide) (by decide) rfl rfl (by decide) (by decide) (fun h236 a235 ha237 g238 X239 A240 => ?_)
  have ks_a235 := ha_ge K218.1 ha237
  have lt_a_a235 : a < a235 := by rw [ha237]; exact E219.lt
  have lt_a118_a235 : a118 < a235 := by rw [ha237]; exact I232.lt
  have lt_a155_a235 : a155 < a235 := by rw [ha237]; exact I233.lt
  have lt_a194_a235 : a194 < a235 := by rw [ha237]; exact I234.lt
  have lt_a2_a235 : a2 < a235 := by rw [ha237]; exact E229.lt
  have lt_a50_a235 : a50 < a235 := by rw [ha237]; exact I230.lt
  have lt_a83_a235 : a83 < a235 := by rw [ha237]; exact I231.lt
  have K241 := K218.ext X239
  have E242 := E219.ext X239
  have F243 := F220.ext X239
  have F244 := F221.ext X239
  have F245 := F222.ext X239
  have F246 := F223.ext X239
  have F247 := F224.ext X239
  have F248 := F225.ext X239
  have F249 := F226.ext X239
  have F250 := F227.ext X239
  have F251 := F228.ext X239
  have E252 := E229.ext X239
  have I253 := I230.ext X239
  have I254 := I231.ext X239
  have I255 := I232.ext X239
  have I256 := I233.ext X239
  have I257 := I234.ext X239
  refine K.putF dI_61 (wd42 hw) F249 E242 (Or.inl (wd43 hw)) (wd1 hw) (ty := (.array (.array .int))) (by decide) rfl rfl P10 (fun h258 W259 => ?_)
  have K260 := K241.wr W259 (Or.inl (List.mem_of_getElem? (i := 0) rfl))
  have E261 := E242.wr W259
  have F262 := F243.other W259 (Or.inr (RoadKit.slot_ne (Or.inr (wd26 hw)) (Or.inl (wd43 hw)) (by decide) (t := (.object "java/util/Map")) (t' := (.array (.array .int))) (by decide) (by decide)))
  have F263 := F244.other W259 (Or.inr (RoadKit.slot_ne (Or.inl (wd30 hw)) (Or.inl (wd43 hw)) (by decide) (t := (.array (.object "java/lang/String"))) (t' := (.array (.array .int))) (by decide) (by decide)))
  have F264 := F245.other W259 (Or.inr (RoadKit.slot_ne (Or.inl (wd33 hw)) (Or.inl (wd43 hw)) (by decide) (t := (.array .int)) (t' := (.array (.array .int))) (by decide) (by decide)))
  have F265 := F246.other W259 (Or.inr (RoadKit.slot_ne (Or.inl (wd35 hw)) (Or.inl (wd43 hw)) (by decide) (t := (.array .int)) (t' := (.array (.array .int))) (by decide) (by decide)))
  have F266 := F247.other W259 (Or.inr (RoadKit.slot_ne (Or.inl (wd37 hw)) (Or.inl (wd43 hw)) (by decide) (t := (.array .int)) (t' := (.array (.array .int))) (by decide) (by decide)))
  have F267 := F248.other W259 (Or.inr (RoadKit.slot_ne (Or.inl (wd41 hw)) (Or.inl (wd43 hw)) (by decide) (t := (.array (.array .int))) (t' := (.array (.array .int))) (by decide) (by decide)))
  have F268 := F249.same W259
  have F269 := F250.other W259 (Or.inr (RoadKit.slot_ne (Or.inl (wd50 hw)) (Or.inl (wd43 hw)) (by decide) (t := .long) (t' := (.array (.array .int))) (by decide) (by decide)))
  have F270 := F251.other W259 (Or.inr (RoadKit.slot_ne (Or.inl (wd52 hw)) (Or.inl (wd43 hw)) (by decide) (t := .int) (t' := (.array (.array .int))) (by decide) (by decide)))
  have E271 := E252.wr W259
  have I272 := I253.other W259 (Nat.ne_of_gt lt_a_a50)
  have I273 := I254.other W259 (Nat.ne_of_gt lt_a_a83)
  have I274 := I255.other W259 (Nat.ne_of_gt lt_a_a118)
  have I275 := I256.other W259 (Nat.ne_of_gt lt_a_a155)
  have I276 := I257.other W259 (Nat.ne_of_gt lt_a_a194)
  have I277 := A240.other W259 (Nat.ne_of_gt lt_a_a235)
  exact K.ret dI_64 (by decide) (by decide) ⟨rfl, K260, E261, F269, F270⟩
set_option maxRecDepth 65536 in
set_option maxHeartbeats 40000000 in
theorem rmF (l : Launch) (Z : State) (a0 : Array Value) (hw : ∀ d ∈ tables_1, d.before a0 Z = true) (a : Addr) (n : Int64) (h : Heap) (n0 : Nat) (P0 : Fld Z h a "com/example/educe/educe/index/PostingsBuffer" "bytes" "J" (.long (0 : Int64))) (P1 : Fld Z h a "com/example/educe/educe/index/PostingsBuffer" "positionCount" "I" (.int (0 : Int32))) : Con l Z ⟨"com/example/educe/educe/index/PostingsBuffer", "isFull", "(J)Z"⟩ prog_46_method_4_code 3 (some .boolean) ({ frames := 0, cells := 0, slots := 0, locals := 0 } : Room) #[.ref a, .long n] h n0 (fun vr h' => vr = some (.int (own_full n)) ∧ h' = h) := by
  refine Con.of pnF (fun m_ => efF m_ a n) (fun E K => ?_)
  refine K.aloadN dF_0 rfl rfl ?_
  refine K.getF dF_1 (wd49 hw) P0 ?_
  refine K.lloadN dF_4 rfl ?_
  refine K.lc_ge dF_5 dF_6 (fun hc1 => ?_) (fun hc1 => ?_)
  · refine K.aloadN dF_9 rfl rfl ?_
    refine K.getF dF_10 (wd51 hw) P1 ?_
    refine K.ldcI dF_13 (wd53 hw) ?_
    refine K.ic_lt dF_15 (fun _ => ?_) (fun u => absurd (by decide) u)
    refine K.iconst (0 : Int32) dF_22 rfl ?_
    exact K.ireturn dF_23 (Or.inr (Or.inl rfl)) rfl (by decide) (by decide) ⟨(by rw [own_f0 hc1]), rfl⟩
  · refine K.iconst (1 : Int32) dF_18 rfl ?_
    refine K.goto dF_19 ?_
    exact K.ireturn dF_23 (Or.inr (Or.inl rfl)) rfl (by decide) (by decide) ⟨(by rw [own_f1 hc1]), rfl⟩
set_option maxRecDepth 65536 in
set_option maxHeartbeats 40000000 in
theorem rm0 (l : Launch) (Z : State) (a0 : Array Value) (hw : ∀ d ∈ tables_1, d.before a0 Z = true) (p q : Int64) (h : Heap) (n0 : Nat)  : Con l Z x code maxLocals ret room_1 #[.long p, .long q] h n0 (fun v h' => v = some (.int 1)) := by
  refine Con.of pn0 (fun m_ => ef0 m_ p q) (fun E K => ?_)
  refine K.newO 1 10 d0_0 (wd0 hw) (wd1 hw) (wd2 hw) rfl rfl (by decide) (by decide) (fun h2 a1 ha3 g4 X5 A6 D7 => ?_)
  have F8 : Fld Z h2 a1 "com/example/educe/educe/index/PostingsBuffer" "termIds" "Ljava/util/Map;" .null := D7 (Or.inr (wd26 hw)) (ty := (.object "java/util/Map")) (by decide)
  have F9 : Fld Z h2 a1 "com/example/educe/educe/index/PostingsBuffer" "terms" "[Ljava/lang/String;" .null := D7 (Or.inl (wd30 hw)) (ty := (.array (.object "java/lang/String"))) (by decide)
  have F10 : Fld Z h2 a1 "com/example/educe/educe/index/PostingsBuffer" "firstPostings" "[I" .null := D7 (Or.inl (wd33 hw)) (ty := (.array .int)) (by decide)
  have F11 : Fld Z h2 a1 "com/example/educe/educe/index/PostingsBuffer" "lastPostings" "[I" .null := D7 (Or.inl (wd35 hw)) (ty := (.array .int)) (by decide)
  have F12 : Fld Z h2 a1 "com/example/educe/educe/index/PostingsBuffer" "documentFrequencies" "[I" .null := D7 (Or.inl (wd37 hw)) (ty := (.array .int)) (by decide)
  have F13 : Fld Z h2 a1 "com/example/educe/educe/index/PostingsBuffer" "pages" "[[I" .null := D7 (Or.inl (wd41 hw)) (ty := (.array (.array .int))) (by decide)
  have F14 : Fld Z h2 a1 "com/example/educe/educe/index/PostingsBuffer" "positionPages" "[[I" .null := D7 (Or.inl (wd43 hw)) (ty := (.array (.array .int))) (by decide)
  have F15 : Fld Z h2 a1 "com/example/educe/educe/index/PostingsBuffer" "bytes" "J" (.long (0 : Int64)) := D7 (Or.inl (wd50 hw)) (ty := .long) (by decide)
  have F16 : Fld Z h2 a1 "com/example/educe/educe/index/PostingsBuffer" "positionCount" "I" (.int (0 : Int32)) := D7 (Or.inl (wd52 hw)) (ty := .int) (by decide)
  refine K.dup d0_3 rfl ?_
  refine K.callI (a := a1) [] [.ref a1] 1 8 90 d0_4 rfl rfl (wd3 hw) (wd4 hw) (wd2 hw) (wd5 hw) (by decide) (rmI l Z a0 hw a1 h2 n0 A6 F8 F9 F10 F11 F12 F13 F14 F15 F16 g4) rfl (lenOf pd_1 rfl) rfl (Nat.le_of_eq rfl) (by decide) (by decide) rfl rfl (by decide) (by decide) (goU fun h17 q18 => ?_)
  obtain ⟨K19, E20, F21, F22⟩ := q18
  have E23 := A6.keep K19
  refine K.astore #[.val (.long p), .second, .val (.long q), .second, .val (.ref a1), .unset, .unset] d0_7 rfl rfl ?_
  refine K.aload d0_9 rfl rfl ?_
  refine K.lloadN d0_11 rfl ?_
  refine K.callV (a := a1) [.long p] [] 0 8 90 d0_12 (wd44 hw) (wd45 hw) (wd47 hw) (wd46 hw) (wd2 hw) (wd48 hw) (by decide) (rmF l Z a0 hw a1 p h17 n0 F21 F22) E20 rfl (lenOf pd_2 rfl) rfl (Nat.le_of_eq rfl) (by decide) (by decide) rfl rfl (by decide) (by decide) (goP ?_)
  refine K.istore #[.val (.long p), .second, .val (.long q), .second, .val (.ref a1), .val (.int (own_full p)), .unset] d0_15 rfl ?_
  refine K.aload d0_17 rfl rfl ?_
  refine K.lloadN d0_19 rfl ?_
  refine K.callV (a := a1) [.long q] [] 0 8 90 d0_20 (wd44 hw) (wd45 hw) (wd47 hw) (wd46 hw) (wd2 hw) (wd48 hw) (by decide) (rmF l Z a0 hw a1 q h17 n0 F21 F22) E20 rfl (lenOf pd_2 rfl) rfl (Nat.le_of_eq rfl) (by decide) (by decide) rfl rfl (by decide) (by decide) (goP ?_)
  refine K.istore #[.val (.long p), .second, .val (.long q), .second, .val (.ref a1), .val (.int (own_full p)), .val (.int (own_full q))] d0_23 rfl ?_
  refine K.iload d0_25 rfl ?_
  refine K.lloadN d0_27 rfl ?_
  refine K.lconst (0 : Int64) d0_28 rfl ?_
  refine cut (P := ∀ z24 : Int32, z24 = (if (0 : Int64) < p then 0 else 1) → Wk E h17 8 90 38 #[.val (.long p), .second, .val (.long q), .second, .val (.ref a1), .val (.int (own_full p)), .val (.int (own_full q))] [.int z24, .int (own_full p)]) (fun J25 => ?_) ?_
  · refine K.lc_gt d0_29 d0_30 (fun hc26 => ?_) (fun hc26 => ?_)
    · refine K.iconst (0 : Int32) d0_37 rfl ?_
      exact J25 _ (if_pos hc26).symm
    · refine K.iconst (1 : Int32) d0_33 rfl ?_
      refine K.goto d0_34 ?_
      exact J25 _ (if_neg hc26).symm
  intro z24 hz24
  refine K.ic_ne d0_38 (fun _ => ?_) (fun u => absurd (show own_full _ = z24 from hz24.symm) u)
  refine K.iload d0_41 rfl ?_
  refine K.lloadN d0_43 rfl ?_
  refine K.lconst (0 : Int64) d0_44 rfl ?_
  refine cut (P := ∀ z27 : Int32, z27 = (if (0 : Int64) < q then 0 else 1) → Wk E h17 8 90 54 #[.val (.long p), .second, .val (.long q), .second, .val (.ref a1), .val (.int (own_full p)), .val (.int (own_full q))] [.int z27, .int (own_full q)]) (fun J28 => ?_) ?_
  · refine K.lc_gt d0_45 d0_46 (fun hc29 => ?_) (fun hc29 => ?_)
    · refine K.iconst (0 : Int32) d0_53 rfl ?_
      exact J28 _ (if_pos hc29).symm
    · refine K.iconst (1 : Int32) d0_49 rfl ?_
      refine K.goto d0_50 ?_
      exact J28 _ (if_neg hc29).symm
  intro z27 hz27
  refine K.ic_ne d0_54 (fun _ => ?_) (fun u => absurd (show own_full _ = z27 from hz27.symm) u)
  refine K.iconst (1 : Int32) d0_57 rfl ?_
  refine K.goto d0_58 ?_
  exact K.ireturn d0_62 (Or.inr (Or.inl rfl)) rfl (by decide) (by decide) rfl
set_option maxRecDepth 65536 in
set_option maxHeartbeats 40000000 in
theorem comes_1 {Post : Tables → Env → Array Value → State → Outcome → State → Prop} (hpost : ∀ tb e args s v u, (limb_1_1.after args s (.returned v) u = true ∧ limb_1_2.after args s (.returned v) u = true ∧ True) → FrameEnd s (.returned v) u (Jvm.fieldLocs frame_1_writes args s ++ Jvm.arrayLocs frame_1_arrays args s ++ Jvm.staticLocs frame_1_statics s) 24 256 → Post tb e args s (.returned v) u) :
    ArmFor flags0 classFile x code maxLocals ret World_1 tables_1 room_1 Calls_1 rest_1 Pre_1 Post := by
  intro l hfl _ _ p e ha hc hk s m args below hf hA hF happ hP
  obtain ⟨hcalls, hrest, hpre⟩ := hP
  obtain ⟨-, -, -, hnamed, -, -, -, hat⟩ := (Spec.applies_iff hf).mp happ
  obtain ⟨hg, hn⟩ := and_e (Cond.before_iff.mp (show (Jvm.Cond.and given_1 narrow_1).before args s = true from hpre))
  obtain ⟨hcount, hk0⟩ := and_e hg
  obtain ⟨ha0, hk1⟩ := and_e hk0
  obtain ⟨w0, w1, rfl⟩ : ∃ w0 w1 : Value, args = #[w0, w1] := by
    have hs : args.size = 2 := by simpa [Cond.value, given_1] using hcount
    obtain ⟨L⟩ := args
    match L, hs with
    | [w0, w1], _ => exact ⟨w0, w1, rfl⟩
  have hw := fun d (hd : d ∈ tables_1) => atoms_spec (ws := Jvm.Cond.code x code maxLocals ret :: tables_1) hat d (List.mem_cons_of_mem _ hd)
  obtain ⟨i0, e0⟩ := isL_v ha0
  obtain rfl : w0 = (.long i0) := Option.some.inj e0
  obtain ⟨i1, e1⟩ := isL_v hk1
  obtain rfl : w1 = (.long i1) := Option.some.inj e1

  obtain ⟨n, o, h1, h2, h3, _, L, rfl, ⟨rfl, N⟩, hq⟩ := rm0 l s _ hw i0 i1  s.heap s.heap.size  (Nat.le_refl _) tables_1 p e ha hc hk s m _ below hf ((Spec.applies_iff_loose hf).mp happ).1 ⟨rfl, State.Warmed39.refl s, rfl⟩ trivial
  refine ⟨n, _, h1, h2, h3, hpost _ _ _ _ _ _ ⟨Cond.after_iff.mpr rfl, Cond.after_iff.mpr (eq_i res_at (Term.int_eval (1)) rfl), trivial⟩ ⟨hq.1, hq.2.1, (hq.2.2.sift fun y hy => Or.inr (N y hy)).mono (by decide) (by decide)⟩⟩
theorem main_1_1 : Claimed_1_1 := comes_1 fun _ _ _ _ _ _ h hF => ⟨h.1, hF⟩
theorem main_1_2 : Claimed_1_2 := comes_1 fun _ _ _ _ _ _ h hF => ⟨h.2.1, hF⟩
end Jvm.Pilot.@@N@@
namespace Jvm.Pilot.@@N@@
open Jvm Jvm.ClassFile Sem Op Lib Jvm.Free Jvm.Stand Jvm.Pilot.@@N@@.Jvm.D
/-! MADE BY PROGRAM (witnessworld.py) out of the Statement's table words and the real class files: 18 classes; the members and pool entries that the words name. The judged class is class 1, her method 1. -/
namespace start1
open Jvm.ClassFile
def u (s : String) : CpInfo := .utf8 (stringToUtf16 s)
/-- a pool by its gaps: so many unusable entries, then the entry; so many at the end -/
def gap : Nat → List CpInfo → List CpInfo
  | 0, r => r
  | n + 1, r => .unusable :: gap n r
def poolList (es : List (Nat × CpInfo)) (last : Nat) : List CpInfo := es.foldr (fun e r => gap e.1 (e.2 :: r)) (gap last [])
def pool (es : List (Nat × CpInfo)) (last : Nat) : Array CpInfo := ⟨poolList es last⟩
def fileOf (pool : Array CpInfo) (this : Nat) (attrs : Array Attribute := #[]) (ms : Array MethodInfo := #[]) (fl : Nat := 33) (sup : Nat := 0) (ifs : Array Nat := #[]) (fds : Array FieldInfo := #[]) : ClassFile where
  minorVersion := 0
  majorVersion := 65
  constantPool := pool
  accessFlags := fl
  thisClass := this
  superClass := sup
  interfaces := ifs
  fields := fds
  methods := ms
  attributes := attrs
def plain (name : String) (sup : Option ClassId) : Class where
  name := name
  kind := .ordinary
  loader := none
  accessFlags := 33
  super := sup
  interfaces := #[]
  cf := none
  fields := #[]
  methods := #[]
  instanceTypes := #[]
  staticTypes := #[]
  resolved := #[]
  callSites := []
  init := .initialized
  statics := none
  mirror := none

def pool0 : Array CpInfo := pool [(5, u "<init>"), (0, u "()V"), (1, .class_ 10), (1, u "java/lang/Object")] 113

def k0c0 : Code := { maxStack := 0, maxLocals := 1, code := object_method_1_code, exceptionTable := #[], attributes := #[] }
def k0m0 : Method := { name := "<init>", desc := "()V", sig := { parameters := [], returnType := none }, accessFlags := 1, code := some k0c0 }
/-- java/lang/Object -/
def k0 : Class := { plain "java/lang/Object" none with
  accessFlags := 33
  interfaces := #[]
  cf := some (fileOf pool0 8 #[] #[{ accessFlags := 1, nameIndex := 5, descriptorIndex := 6, attributes := #[] }] 33 0 #[] #[])
  fields := #[]
  methods := #[k0m0]
  instanceTypes := #[]
  staticTypes := #[]
  resolved := Array.replicate 124 none
  statics := none }

def pool1 : Array CpInfo := pool [(2, .class_ 4), (0, .nameAndType 5 6), (0, u "java/lang/Object"), (0, u "<init>"), (0, u "()V"), (0, .class_ 8), (0, u "com/example/educe/educe/index/PostingsBuffer"), (0, .methodref 7 3), (0, .methodref 7 11), (0, .nameAndType 12 13), (0, u "isFull"), (0, u "(J)Z"), (0, .class_ 15), (0, u "com/example/educe/educe/index/PostingsBufferIsFullPinLaw"), (2, u "law"), (0, u "(JJ)Z")] 3

def k1m0 : Method := { name := "<init>", desc := "()V", sig := { parameters := [], returnType := none }, accessFlags := 1, code := none }
def k1c1 : Code := { maxStack := 5, maxLocals := 7, code := code, exceptionTable := #[], attributes := #[] }
def k1m1 : Method := { name := "law", desc := "(JJ)Z", sig := { parameters := [.long, .long], returnType := some .boolean }, accessFlags := 9, code := some k1c1 }
/-- com/example/educe/educe/index/PostingsBufferIsFullPinLaw -/
def k1 : Class := { plain "com/example/educe/educe/index/PostingsBufferIsFullPinLaw" (some 0) with
  accessFlags := 49
  interfaces := #[]
  cf := some (fileOf pool1 14 #[] #[{ accessFlags := 1, nameIndex := 5, descriptorIndex := 6, attributes := #[] }, { accessFlags := 9, nameIndex := 18, descriptorIndex := 19, attributes := #[] }] 49 2 #[] #[])
  fields := #[]
  methods := #[k1m0, k1m1]
  instanceTypes := #[]
  staticTypes := #[]
  resolved := Array.replicate 23 none
  statics := none }

def pool2 : Array CpInfo := pool [(1, .class_ 2), (0, u "com/example/educe/educe/index/PostingsBuffer"), (2, .methodref 6 7), (0, .class_ 8), (0, .nameAndType 9 10), (0, u "java/lang/Object"), (0, u "<init>"), (0, u "()V"), (0, .class_ 12), (0, u "java/util/HashMap"), (0, .methodref 11 7), (0, .fieldref 1 15), (0, .nameAndType 16 17), (0, u "termIds"), (0, u "Ljava/util/Map;"), (0, .class_ 19), (0, u "java/lang/String"), (0, .fieldref 1 21), (0, .nameAndType 22 23), (0, u "terms"), (0, u "[Ljava/lang/String;"), (0, .fieldref 1 25), (0, .nameAndType 26 27), (0, u "firstPostings"), (0, u "[I"), (0, .fieldref 1 29), (0, .nameAndType 30 27), (0, u "lastPostings"), (0, .fieldref 1 32), (0, .nameAndType 33 27), (0, u "documentFrequencies"), (0, .class_ 27), (0, .fieldref 1 36), (0, .nameAndType 37 38), (0, u "pages"), (0, u "[[I"), (0, .fieldref 1 40), (0, .nameAndType 41 38), (0, u "positionPages"), (38, u "postingCount"), (0, u "I"), (16, .fieldref 1 99), (0, .nameAndType 100 81), (0, u "positionCount"), (6, .fieldref 1 108), (0, .nameAndType 109 110), (0, u "bytes"), (0, u "J"), (0, .integer 1073741824), (0, .class_ 113), (0, u "com/example/educe/educe/index/PostingsBuffer$Cursor"), (55, u "PAGE_BITS"), (2, u "PAGE_SIZE"), (1, u "POSTING_INTS"), (1, u "PAGE_BYTES"), (1, u "POSITION_PAGE_BYTES"), (1, u "TERM_BYTES"), (1, u "MAX_POSITIONS"), (0, u "END"), (10, u "isFull"), (0, u "(J)Z")] 30

def k2c0 : Code := { maxStack := 3, maxLocals := 1, code := prog_46_method_1_code, exceptionTable := #[], attributes := #[] }
def k2m0 : Method := { name := "<init>", desc := "()V", sig := { parameters := [], returnType := none }, accessFlags := 0, code := some k2c0 }
def k2c1 : Code := { maxStack := 4, maxLocals := 3, code := prog_46_method_4_code, exceptionTable := #[], attributes := #[] }
def k2m1 : Method := { name := "isFull", desc := "(J)Z", sig := { parameters := [.long], returnType := some .boolean }, accessFlags := 0, code := some k2c1 }
/-- com/example/educe/educe/index/PostingsBuffer -/
def k2 : Class := { plain "com/example/educe/educe/index/PostingsBuffer" (some 0) with
  accessFlags := 32
  interfaces := #[]
  cf := some (fileOf pool2 1 #[.nestMembers #[112]] #[{ accessFlags := 0, nameIndex := 9, descriptorIndex := 10, attributes := #[] }, { accessFlags := 0, nameIndex := 194, descriptorIndex := 195, attributes := #[] }] 32 6 #[] #[{ accessFlags := 26, nameIndex := 169, descriptorIndex := 81, attributes := #[] }, { accessFlags := 26, nameIndex := 172, descriptorIndex := 81, attributes := #[] }, { accessFlags := 26, nameIndex := 174, descriptorIndex := 81, attributes := #[] }, { accessFlags := 26, nameIndex := 176, descriptorIndex := 81, attributes := #[] }, { accessFlags := 26, nameIndex := 178, descriptorIndex := 81, attributes := #[] }, { accessFlags := 26, nameIndex := 180, descriptorIndex := 81, attributes := #[] }, { accessFlags := 26, nameIndex := 182, descriptorIndex := 81, attributes := #[] }, { accessFlags := 26, nameIndex := 183, descriptorIndex := 81, attributes := #[] }, { accessFlags := 18, nameIndex := 16, descriptorIndex := 17, attributes := #[] }, { accessFlags := 2, nameIndex := 22, descriptorIndex := 23, attributes := #[] }, { accessFlags := 2, nameIndex := 26, descriptorIndex := 27, attributes := #[] }, { accessFlags := 2, nameIndex := 30, descriptorIndex := 27, attributes := #[] }, { accessFlags := 2, nameIndex := 33, descriptorIndex := 27, attributes := #[] }, { accessFlags := 2, nameIndex := 37, descriptorIndex := 38, attributes := #[] }, { accessFlags := 2, nameIndex := 80, descriptorIndex := 81, attributes := #[] }, { accessFlags := 2, nameIndex := 41, descriptorIndex := 38, attributes := #[] }, { accessFlags := 2, nameIndex := 100, descriptorIndex := 81, attributes := #[] }, { accessFlags := 2, nameIndex := 109, descriptorIndex := 110, attributes := #[] }])
  fields := #[{ name := "PAGE_BITS", type := .int, accessFlags := 26, slot := 0, constantValue := 0 }, { name := "PAGE_SIZE", type := .int, accessFlags := 26, slot := 1, constantValue := 0 }, { name := "POSTING_INTS", type := .int, accessFlags := 26, slot := 2, constantValue := 0 }, { name := "PAGE_BYTES", type := .int, accessFlags := 26, slot := 3, constantValue := 0 }, { name := "POSITION_PAGE_BYTES", type := .int, accessFlags := 26, slot := 4, constantValue := 0 }, { name := "TERM_BYTES", type := .int, accessFlags := 26, slot := 5, constantValue := 0 }, { name := "MAX_POSITIONS", type := .int, accessFlags := 26, slot := 6, constantValue := 0 }, { name := "END", type := .int, accessFlags := 26, slot := 7, constantValue := 0 }, { name := "termIds", type := (.object "java/util/Map"), accessFlags := 18, slot := 0, constantValue := 0 }, { name := "terms", type := (.array (.object "java/lang/String")), accessFlags := 2, slot := 1, constantValue := 0 }, { name := "firstPostings", type := (.array .int), accessFlags := 2, slot := 2, constantValue := 0 }, { name := "lastPostings", type := (.array .int), accessFlags := 2, slot := 3, constantValue := 0 }, { name := "documentFrequencies", type := (.array .int), accessFlags := 2, slot := 4, constantValue := 0 }, { name := "pages", type := (.array (.array .int)), accessFlags := 2, slot := 5, constantValue := 0 }, { name := "postingCount", type := .int, accessFlags := 2, slot := 6, constantValue := 0 }, { name := "positionPages", type := (.array (.array .int)), accessFlags := 2, slot := 7, constantValue := 0 }, { name := "positionCount", type := .int, accessFlags := 2, slot := 8, constantValue := 0 }, { name := "bytes", type := .long, accessFlags := 2, slot := 9, constantValue := 0 }]
  methods := #[k2m0, k2m1]
  instanceTypes := #[(.object "java/util/Map"), (.array (.object "java/lang/String")), (.array .int), (.array .int), (.array .int), (.array (.array .int)), .int, (.array (.array .int)), .int, .long]
  staticTypes := #[.int, .int, .int, .int, .int, .int, .int, .int]
  resolved := Array.replicate 226 none
  statics := none }

def pool3 : Array CpInfo := pool [(2, .class_ 4), (1, u "java/util/Map"), (31, .class_ 37), (0, u "java/util/Map$Entry"), (55, .class_ 94), (0, u "java/lang/Object")] 168

/-- java/util/Map -/
def k3 : Class := { plain "java/util/Map" (some 0) with
  accessFlags := 1537
  interfaces := #[]
  cf := some (fileOf pool3 2 #[.nestMembers #[36]] #[] 1537 93 #[] #[])
  fields := #[]
  methods := #[]
  instanceTypes := #[]
  staticTypes := #[]
  resolved := Array.replicate 263 none
  statics := none }

def pool4 : Array CpInfo := pool [(1, .methodref 2 3), (0, .class_ 4), (0, .nameAndType 5 6), (0, u "java/lang/Object"), (0, u "<init>"), (0, u "()V"), (1, .class_ 10), (1, u "java/util/AbstractMap"), (42, .class_ 54), (0, u "java/util/Map"), (9, u "keySet"), (0, u "Ljava/util/Set;"), (0, .class_ 67), (0, u "java/util/AbstractMap$1"), (5, u "values"), (0, u "Ljava/util/Collection;"), (0, .class_ 76), (0, u "java/util/AbstractMap$2"), (104, .class_ 182), (0, u "java/util/AbstractMap$ViewCollection"), (0, .class_ 184), (0, u "java/util/AbstractMap$SimpleImmutableEntry"), (0, .class_ 186), (0, u "java/util/AbstractMap$SimpleEntry"), (0, .class_ 188), (0, u "java/util/AbstractMap$2$1"), (0, .class_ 190), (0, u "java/util/AbstractMap$1$1")] 5

def k4c0 : Code := { maxStack := 1, maxLocals := 1, code := jdk_71_method_1_code, exceptionTable := #[], attributes := #[] }
def k4m0 : Method := { name := "<init>", desc := "()V", sig := { parameters := [], returnType := none }, accessFlags := 4, code := some k4c0 }
/-- java/util/AbstractMap -/
def k4 : Class := { plain "java/util/AbstractMap" (some 0) with
  accessFlags := 1057
  interfaces := #[3]
  cf := some (fileOf pool4 8 #[.nestMembers #[181, 183, 185, 75, 187, 66, 189]] #[{ accessFlags := 4, nameIndex := 5, descriptorIndex := 6, attributes := #[] }] 1057 2 #[53] #[{ accessFlags := 128, nameIndex := 64, descriptorIndex := 65, attributes := #[] }, { accessFlags := 128, nameIndex := 73, descriptorIndex := 74, attributes := #[] }])
  fields := #[{ name := "keySet", type := (.object "java/util/Set"), accessFlags := 128, slot := 0, constantValue := 0 }, { name := "values", type := (.object "java/util/Collection"), accessFlags := 128, slot := 1, constantValue := 0 }]
  methods := #[k4m0]
  instanceTypes := #[(.object "java/util/Set"), (.object "java/util/Collection")]
  staticTypes := #[]
  resolved := Array.replicate 196 none
  statics := none }

def pool5 : Array CpInfo := pool [(1, .class_ 2), (0, u "java/lang/Cloneable"), (0, .class_ 4), (0, u "java/lang/Object")] 2

/-- java/lang/Cloneable -/
def k5 : Class := { plain "java/lang/Cloneable" (some 0) with
  accessFlags := 1537
  interfaces := #[]
  cf := some (fileOf pool5 1 #[] #[] 1537 3 #[] #[])
  fields := #[]
  methods := #[]
  instanceTypes := #[]
  staticTypes := #[]
  resolved := Array.replicate 7 none
  statics := none }

def pool6 : Array CpInfo := pool [(1, .class_ 2), (0, u "java/io/Serializable"), (0, .class_ 4), (0, u "java/lang/Object")] 2

/-- java/io/Serializable -/
def k6 : Class := { plain "java/io/Serializable" (some 0) with
  accessFlags := 1537
  interfaces := #[]
  cf := some (fileOf pool6 1 #[] #[] 1537 3 #[] #[])
  fields := #[]
  methods := #[]
  instanceTypes := #[]
  staticTypes := #[]
  resolved := Array.replicate 7 none
  statics := none }

def pool7 : Array CpInfo := pool [(40, .class_ 41), (0, u "java/util/HashMap"), (1, .methodref 44 45), (0, .class_ 46), (0, .nameAndType 47 48), (0, u "java/util/AbstractMap"), (0, u "<init>"), (0, u "()V"), (32, .fieldref 40 82), (0, .nameAndType 83 84), (0, u "loadFactor"), (0, u "F"), (5, u "threshold"), (0, u "I"), (0, .float 1061158912), (8, .class_ 103), (1, u "java/util/Map"), (0, u "size"), (2, u "table"), (0, u "[Ljava/util/HashMap$Node;"), (14, u "entrySet"), (39, .class_ 165), (1, u "java/util/HashMap$Node"), (14, .class_ 181), (0, u "java/util/HashMap$TreeNode"), (22, u "modCount"), (37, u "Ljava/util/Set;"), (0, .class_ 244), (0, u "java/util/HashMap$KeySet"), (18, .class_ 264), (0, u "java/util/HashMap$Values"), (3, .class_ 269), (0, u "java/util/HashMap$EntrySet"), (76, .class_ 348), (1, u "java/util/HashMap$UnsafeHolder"), (43, .class_ 393), (0, u "java/lang/Cloneable"), (0, .class_ 395), (0, u "java/io/Serializable"), (0, u "serialVersionUID"), (0, u "J"), (3, u "DEFAULT_INITIAL_CAPACITY"), (1, u "MAXIMUM_CAPACITY"), (0, u "DEFAULT_LOAD_FACTOR"), (0, u "TREEIFY_THRESHOLD"), (1, u "UNTREEIFY_THRESHOLD"), (1, u "MIN_TREEIFY_CAPACITY"), (186, .class_ 597), (0, u "java/util/HashMap$EntrySpliterator"), (0, .class_ 599), (0, u "java/util/HashMap$ValueSpliterator"), (0, .class_ 601), (0, u "java/util/HashMap$KeySpliterator"), (0, .class_ 603), (0, u "java/util/HashMap$HashMapSpliterator"), (0, .class_ 605), (0, u "java/util/HashMap$EntryIterator"), (0, .class_ 607), (0, u "java/util/HashMap$ValueIterator"), (0, .class_ 609), (0, u "java/util/HashMap$KeyIterator"), (0, .class_ 611), (0, u "java/util/HashMap$HashIterator")] 17

def k7c0 : Code := { maxStack := 2, maxLocals := 1, code := jdk_69_method_7_code, exceptionTable := #[], attributes := #[] }
def k7m0 : Method := { name := "<init>", desc := "()V", sig := { parameters := [], returnType := none }, accessFlags := 1, code := some k7c0 }
/-- java/util/HashMap -/
def k7 : Class := { plain "java/util/HashMap" (some 4) with
  accessFlags := 33
  interfaces := #[3, 5, 6]
  cf := some (fileOf pool7 40 #[.nestMembers #[180, 596, 598, 600, 602, 604, 606, 608, 610, 346, 268, 263, 243, 163]] #[{ accessFlags := 1, nameIndex := 47, descriptorIndex := 48, attributes := #[] }] 33 44 #[101, 392, 394] #[{ accessFlags := 26, nameIndex := 396, descriptorIndex := 397, attributes := #[] }, { accessFlags := 24, nameIndex := 401, descriptorIndex := 91, attributes := #[] }, { accessFlags := 24, nameIndex := 403, descriptorIndex := 91, attributes := #[] }, { accessFlags := 24, nameIndex := 404, descriptorIndex := 84, attributes := #[] }, { accessFlags := 24, nameIndex := 405, descriptorIndex := 91, attributes := #[] }, { accessFlags := 24, nameIndex := 407, descriptorIndex := 91, attributes := #[] }, { accessFlags := 24, nameIndex := 409, descriptorIndex := 91, attributes := #[] }, { accessFlags := 128, nameIndex := 107, descriptorIndex := 108, attributes := #[] }, { accessFlags := 128, nameIndex := 123, descriptorIndex := 242, attributes := #[] }, { accessFlags := 128, nameIndex := 104, descriptorIndex := 91, attributes := #[] }, { accessFlags := 128, nameIndex := 204, descriptorIndex := 91, attributes := #[] }, { accessFlags := 0, nameIndex := 90, descriptorIndex := 91, attributes := #[] }, { accessFlags := 16, nameIndex := 83, descriptorIndex := 84, attributes := #[] }])
  fields := #[{ name := "serialVersionUID", type := .long, accessFlags := 26, slot := 0, constantValue := 0 }, { name := "DEFAULT_INITIAL_CAPACITY", type := .int, accessFlags := 24, slot := 1, constantValue := 0 }, { name := "MAXIMUM_CAPACITY", type := .int, accessFlags := 24, slot := 2, constantValue := 0 }, { name := "DEFAULT_LOAD_FACTOR", type := .float, accessFlags := 24, slot := 3, constantValue := 0 }, { name := "TREEIFY_THRESHOLD", type := .int, accessFlags := 24, slot := 4, constantValue := 0 }, { name := "UNTREEIFY_THRESHOLD", type := .int, accessFlags := 24, slot := 5, constantValue := 0 }, { name := "MIN_TREEIFY_CAPACITY", type := .int, accessFlags := 24, slot := 6, constantValue := 0 }, { name := "table", type := (.array (.object "java/util/HashMap$Node")), accessFlags := 128, slot := 2, constantValue := 0 }, { name := "entrySet", type := (.object "java/util/Set"), accessFlags := 128, slot := 3, constantValue := 0 }, { name := "size", type := .int, accessFlags := 128, slot := 4, constantValue := 0 }, { name := "modCount", type := .int, accessFlags := 128, slot := 5, constantValue := 0 }, { name := "threshold", type := .int, accessFlags := 0, slot := 6, constantValue := 0 }, { name := "loadFactor", type := .float, accessFlags := 16, slot := 7, constantValue := 0 }]
  methods := #[k7m0]
  instanceTypes := #[(.object "java/util/Set"), (.object "java/util/Collection"), (.array (.object "java/util/HashMap$Node")), (.object "java/util/Set"), .int, .int, .int, .float]
  staticTypes := #[.long, .int, .int, .float, .int, .int, .int]
  resolved := Array.replicate 629 none
  statics := none }

def pool8 : Array CpInfo := pool [(1, .class_ 2), (0, u "java/lang/Comparable"), (0, .class_ 4), (0, u "java/lang/Object")] 7

/-- java/lang/Comparable -/
def k8 : Class := { plain "java/lang/Comparable" (some 0) with
  accessFlags := 1537
  interfaces := #[]
  cf := some (fileOf pool8 1 #[] #[] 1537 3 #[] #[])
  fields := #[]
  methods := #[]
  instanceTypes := #[]
  staticTypes := #[]
  resolved := Array.replicate 12 none
  statics := none }

def pool9 : Array CpInfo := pool [(2, .class_ 4), (1, u "java/lang/CharSequence"), (42, .class_ 48), (0, u "java/lang/CharSequence$1CodePointIterator"), (10, .class_ 60), (0, u "java/lang/CharSequence$1CharIterator"), (5, .class_ 67), (0, u "java/lang/Object")] 63

/-- java/lang/CharSequence -/
def k9 : Class := { plain "java/lang/CharSequence" (some 0) with
  accessFlags := 1537
  interfaces := #[]
  cf := some (fileOf pool9 2 #[.nestMembers #[47, 59]] #[] 1537 66 #[] #[])
  fields := #[]
  methods := #[]
  instanceTypes := #[]
  staticTypes := #[]
  resolved := Array.replicate 131 none
  statics := none }

def pool10 : Array CpInfo := pool [(1, .class_ 2), (0, u "java/lang/constant/Constable"), (0, .class_ 4), (0, u "java/lang/Object")] 6

/-- java/lang/constant/Constable -/
def k10 : Class := { plain "java/lang/constant/Constable" (some 0) with
  accessFlags := 1537
  interfaces := #[]
  cf := some (fileOf pool10 1 #[] #[] 1537 3 #[] #[])
  fields := #[]
  methods := #[]
  instanceTypes := #[]
  staticTypes := #[]
  resolved := Array.replicate 11 none
  statics := none }

def pool11 : Array CpInfo := pool [(1, .class_ 2), (0, u "java/lang/constant/ConstantDesc"), (0, .class_ 4), (0, u "java/lang/Object")] 32

/-- java/lang/constant/ConstantDesc -/
def k11 : Class := { plain "java/lang/constant/ConstantDesc" (some 0) with
  accessFlags := 1537
  interfaces := #[]
  cf := some (fileOf pool11 1 #[] #[] 1537 3 #[] #[])
  fields := #[]
  methods := #[]
  instanceTypes := #[]
  staticTypes := #[]
  resolved := Array.replicate 37 none
  statics := none }

def pool12 : Array CpInfo := pool [(2, .class_ 4), (1, u "java/lang/Object"), (0, u "<init>"), (0, u "()V"), (3, .class_ 12), (1, u "java/lang/String"), (0, u "value"), (0, u "[B"), (2, u "coder"), (0, u "B"), (2, u "hash"), (0, u "I"), (2, u "hashIsZero"), (0, u "Z"), (13, u "COMPACT_STRINGS"), (534, .class_ 576), (0, u "java/lang/CharSequence"), (22, u "CASE_INSENSITIVE_ORDER"), (0, u "Ljava/util/Comparator;"), (500, u "serialPersistentFields"), (0, u "[Ljava/io/ObjectStreamField;"), (0, .class_ 1104), (0, u "java/lang/String$CaseInsensitiveComparator"), (1, .class_ 1107), (0, u "java/io/Serializable"), (0, .class_ 1109), (0, u "java/lang/Comparable"), (0, .class_ 1111), (0, u "java/lang/constant/Constable"), (0, .class_ 1113), (0, u "java/lang/constant/ConstantDesc"), (2, u "serialVersionUID"), (0, u "J"), (3, u "REPL"), (0, u "C"), (2, u "LATIN1"), (1, u "UTF16")] 323

def k12m0 : Method := { name := "<init>", desc := "()V", sig := { parameters := [], returnType := none }, accessFlags := 1, code := none }
/-- java/lang/String -/
def k12 : Class := { plain "java/lang/String" (some 0) with
  accessFlags := 49
  interfaces := #[6, 8, 9, 10, 11]
  cf := some (fileOf pool12 10 #[.nestMembers #[1103]] #[{ accessFlags := 1, nameIndex := 5, descriptorIndex := 6, attributes := #[] }] 49 2 #[1106, 1108, 575, 1110, 1112] #[{ accessFlags := 18, nameIndex := 13, descriptorIndex := 14, attributes := #[] }, { accessFlags := 18, nameIndex := 17, descriptorIndex := 18, attributes := #[] }, { accessFlags := 2, nameIndex := 21, descriptorIndex := 22, attributes := #[] }, { accessFlags := 2, nameIndex := 25, descriptorIndex := 26, attributes := #[] }, { accessFlags := 26, nameIndex := 1116, descriptorIndex := 1117, attributes := #[] }, { accessFlags := 24, nameIndex := 40, descriptorIndex := 26, attributes := #[] }, { accessFlags := 26, nameIndex := 1101, descriptorIndex := 1102, attributes := #[] }, { accessFlags := 26, nameIndex := 1121, descriptorIndex := 1122, attributes := #[] }, { accessFlags := 25, nameIndex := 599, descriptorIndex := 600, attributes := #[] }, { accessFlags := 24, nameIndex := 1125, descriptorIndex := 18, attributes := #[] }, { accessFlags := 24, nameIndex := 1127, descriptorIndex := 18, attributes := #[] }])
  fields := #[{ name := "value", type := (.array .byte), accessFlags := 18, slot := 0, constantValue := 0 }, { name := "coder", type := .byte, accessFlags := 18, slot := 1, constantValue := 0 }, { name := "hash", type := .int, accessFlags := 2, slot := 2, constantValue := 0 }, { name := "hashIsZero", type := .boolean, accessFlags := 2, slot := 3, constantValue := 0 }, { name := "serialVersionUID", type := .long, accessFlags := 26, slot := 0, constantValue := 0 }, { name := "COMPACT_STRINGS", type := .boolean, accessFlags := 24, slot := 1, constantValue := 0 }, { name := "serialPersistentFields", type := (.array (.object "java/io/ObjectStreamField")), accessFlags := 26, slot := 2, constantValue := 0 }, { name := "REPL", type := .char, accessFlags := 26, slot := 3, constantValue := 0 }, { name := "CASE_INSENSITIVE_ORDER", type := (.object "java/util/Comparator"), accessFlags := 25, slot := 4, constantValue := 0 }, { name := "LATIN1", type := .byte, accessFlags := 24, slot := 5, constantValue := 0 }, { name := "UTF16", type := .byte, accessFlags := 24, slot := 6, constantValue := 0 }]
  methods := #[k12m0]
  instanceTypes := #[(.array .byte), .byte, .int, .boolean]
  staticTypes := #[.long, .boolean, (.array (.object "java/io/ObjectStreamField")), .char, (.object "java/util/Comparator"), .byte, .byte]
  resolved := Array.replicate 1451 none
  statics := none }

/-- the primitive byte -/
def k13 : Class := { plain "byte" none with kind := .primitive 'B', accessFlags := 0x411 }
/-- [B -/
def k14 : Class := { plain "[B" (some 0) with kind := .array 13 .byte, interfaces := #[5, 6], accessFlags := 1041 }

/-- the primitive int -/
def k15 : Class := { plain "int" none with kind := .primitive 'I', accessFlags := 0x411 }
/-- [I -/
def k16 : Class := { plain "[I" (some 0) with kind := .array 15 .int, interfaces := #[5, 6], accessFlags := 1041 }

/-- [Ljava/lang/String; -/
def k17 : Class := { plain "[Ljava/lang/String;" (some 0) with kind := .array 12 (.object "java/lang/String"), interfaces := #[5, 6], accessFlags := 1041 }
def k18 : Class := { plain "[[I" (some 0) with kind := .array 16 (.array .int), interfaces := #[5, 6], accessFlags := 1041 }

def heap : Heap := #[]
def classes : Array Class := #[k0, k1, k2, k3, k4, k5, k6, k7, k8, k9, k10, k11, k12, k13, k14, k15, k16, k17, k18]
def interned : List (Array UInt16 × Addr) := []
def slotsUsed : Nat := 0
def theMethod : MethodId := ⟨1, 1⟩
def args0 : Array Value := #[.long 4, .long 9]
def aboutOver (below : List Frame) : State where
  vm := { classes := classes, interned := interned.toArray }
  heap := heap
  slotsUsed := slotsUsed
  threads := #[{ frames := .invoking theMethod args0 :: below }]
def below0 : List Frame := [.native { method := ⟨0, 0⟩, args := #[] }]
def about1 : State := aboutOver below0
def p0 : Program := .bare "" "" ""
def e0 : Env := launch0.env 0 0 0
theorem w_frames : about1.frames = Frame.invoking theMethod args0 :: below0 := rfl
set_option maxRecDepth 65536 in
theorem w_args : argsFit about1.vm theMethod args0 = true := by decide +kernel
set_option maxRecDepth 65536 in
theorem w_heap : heapFits about1 = true := by decide +kernel
set_option maxRecDepth 65536 in
theorem w_runnable : about1.curStatus? = some .runnable := by decide +kernel
set_option maxRecDepth 65536 in
theorem w_alone : about1.alone = true := by decide +kernel
set_option maxRecDepth 65536 in
theorem w_named : about1.methodNamed? x = some theMethod := by decide +kernel
set_option maxRecDepth 65536 in
theorem w_hears : about1.hears theMethod below0 = true := by decide +kernel
set_option maxRecDepth 65536 in
theorem w_ripe : about1.ripe theMethod args0 below0 = true := by decide +kernel
theorem w_running : about1.status = .running := rfl
set_option maxRecDepth 65536 in
theorem w_room : about1.hasRoom e0.platform room_1 = true :=
  launch0.hasRoom_least _ room_1 (by decide +kernel) (by decide +kernel) (by decide +kernel) (by decide +kernel) (by decide +kernel) (by decide +kernel)
theorem allAtoms_all (ts : List Jvm.Cond) (a : Array Jvm.Value) (st : Jvm.State) : (allAtoms ts).before a st = ts.all (fun c => c.before a st) := by
  induction ts with
  | nil => rfl
  | cons c t ih =>
    show (Jvm.Cond.and c (allAtoms t)).before a st = _
    rw [Jvm.Cond.before_and, ih, List.all_cons]
def words1 : List Jvm.Cond := Jvm.Cond.code x code maxLocals ret :: tables_1
/-- a 'code' word, met by the world's own term for the bytes: nothing is compared byte by byte -/
theorem code_word {y : MethodName} {bytes : ByteArray} {mx : Nat} {rt : Option FieldType} {a : Array Value} {s : State} {m : MethodId} {meth : Method} {c : Code} (h1 : s.methodNamed? y = some m) (h2 : s.vm.method? m = some meth) (h3 : meth.code = some c) (h4 : c.code = bytes)
    (h5 : (c.maxLocals == mx && c.exceptionTable.isEmpty && decide (c.maxStack ≤ mostOperands) && decide (meth.sig.returnType = rt) && !meth.locks && decide (parseMethodDescriptor y.desc = some meth.sig)) = true) : (Jvm.Cond.code y bytes mx rt).before a s = true := by
  simp only [Bool.and_eq_true, beq_iff_eq, Bool.not_eq_true', decide_eq_true_eq] at h5
  obtain ⟨⟨⟨⟨⟨g1, g2⟩, g3⟩, g4⟩, g5⟩, g6⟩ := h5
  simp [Cond.before, Cond.holds, Cond.value, h1, h2, h3, h4, g1, g2, g3, g4, g5, g6]
def isCode : Jvm.Cond → Bool
  | .code _ _ _ _ => true
  | _ => false
theorem all_split {L : List Jvm.Cond} {P : Jvm.Cond → Bool} (h1 : L.all (fun c => isCode c || P c) = true) (h2 : ∀ c ∈ L.filter isCode, P c = true) : L.all P = true := by
  refine List.all_eq_true.mpr fun c hc => ?_
  have h := List.all_eq_true.mp h1 c hc
  rcases Bool.eq_false_or_eq_true (isCode c) with hi | hi
  · exact h2 c (List.mem_filter.mpr ⟨hc, hi⟩)
  · simpa [hi] using h
set_option maxRecDepth 65536 in
theorem w_c0 : (Jvm.Cond.code x code maxLocals ret).before args0 about1 = true := code_word (m := ⟨1, 1⟩) (meth := k1m1) (c := k1c1) (by decide +kernel) rfl rfl rfl (by decide +kernel)
set_option maxRecDepth 65536 in
theorem w_c1 : (Jvm.Cond.code ({ cls := "com/example/educe/educe/index/PostingsBuffer", name := "<init>", desc := "()V" } : Jvm.MethodName) prog_46_method_1_code (1 : Nat) (Option.none : Option Jvm.ClassFile.FieldType)).before args0 about1 = true := code_word (m := ⟨2, 0⟩) (meth := k2m0) (c := k2c0) (by decide +kernel) rfl rfl rfl (by decide +kernel)
set_option maxRecDepth 65536 in
theorem w_c2 : (Jvm.Cond.code ({ cls := "java/lang/Object", name := "<init>", desc := "()V" } : Jvm.MethodName) object_method_1_code (1 : Nat) (Option.none : Option Jvm.ClassFile.FieldType)).before args0 about1 = true := code_word (m := ⟨0, 0⟩) (meth := k0m0) (c := k0c0) (by decide +kernel) rfl rfl rfl (by decide +kernel)
set_option maxRecDepth 65536 in
theorem w_c3 : (Jvm.Cond.code ({ cls := "java/util/HashMap", name := "<init>", desc := "()V" } : Jvm.MethodName) jdk_69_method_7_code (1 : Nat) (Option.none : Option Jvm.ClassFile.FieldType)).before args0 about1 = true := code_word (m := ⟨7, 0⟩) (meth := k7m0) (c := k7c0) (by decide +kernel) rfl rfl rfl (by decide +kernel)
set_option maxRecDepth 65536 in
theorem w_c4 : (Jvm.Cond.code ({ cls := "java/util/AbstractMap", name := "<init>", desc := "()V" } : Jvm.MethodName) jdk_71_method_1_code (1 : Nat) (Option.none : Option Jvm.ClassFile.FieldType)).before args0 about1 = true := code_word (m := ⟨4, 0⟩) (meth := k4m0) (c := k4c0) (by decide +kernel) rfl rfl rfl (by decide +kernel)
set_option maxRecDepth 65536 in
theorem w_c5 : (Jvm.Cond.code ({ cls := "com/example/educe/educe/index/PostingsBuffer", name := "isFull", desc := "(J)Z" } : Jvm.MethodName) prog_46_method_4_code (3 : Nat) (Option.some Jvm.ClassFile.FieldType.boolean)).before args0 about1 = true := code_word (m := ⟨2, 1⟩) (meth := k2m1) (c := k2c1) (by decide +kernel) rfl rfl rfl (by decide +kernel)
def codes1 : List Jvm.Cond := [Jvm.Cond.code x code maxLocals ret, Jvm.Cond.code ({ cls := "com/example/educe/educe/index/PostingsBuffer", name := "<init>", desc := "()V" } : Jvm.MethodName) prog_46_method_1_code (1 : Nat) (Option.none : Option Jvm.ClassFile.FieldType), Jvm.Cond.code ({ cls := "java/lang/Object", name := "<init>", desc := "()V" } : Jvm.MethodName) object_method_1_code (1 : Nat) (Option.none : Option Jvm.ClassFile.FieldType), Jvm.Cond.code ({ cls := "java/util/HashMap", name := "<init>", desc := "()V" } : Jvm.MethodName) jdk_69_method_7_code (1 : Nat) (Option.none : Option Jvm.ClassFile.FieldType), Jvm.Cond.code ({ cls := "java/util/AbstractMap", name := "<init>", desc := "()V" } : Jvm.MethodName) jdk_71_method_1_code (1 : Nat) (Option.none : Option Jvm.ClassFile.FieldType), Jvm.Cond.code ({ cls := "com/example/educe/educe/index/PostingsBuffer", name := "isFull", desc := "(J)Z" } : Jvm.MethodName) prog_46_method_4_code (3 : Nat) (Option.some Jvm.ClassFile.FieldType.boolean)]
set_option maxRecDepth 65536 in
theorem codes_eq : words1.filter isCode = codes1 := rfl
theorem w_codes : ∀ c ∈ words1.filter isCode, c.before args0 about1 = true := by
  rw [codes_eq]
  intro c hc
  simp only [codes1, List.mem_cons, List.not_mem_nil, or_false] at hc
  rcases hc with rfl | rfl | rfl | rfl | rfl | rfl
  · exact w_c0
  · exact w_c1
  · exact w_c2
  · exact w_c3
  · exact w_c4
  · exact w_c5
set_option maxRecDepth 65536 in
theorem w_t1 : (words1.take 24).all (fun c => isCode c || c.before args0 about1) = true := by decide +kernel
set_option maxRecDepth 65536 in
theorem w_t2 : ((words1.drop 24).take 24).all (fun c => isCode c || c.before args0 about1) = true := by decide +kernel
set_option maxRecDepth 65536 in
theorem w_t3 : ((words1.drop 24).drop 24).all (fun c => isCode c || c.before args0 about1) = true := by decide +kernel
theorem w_tables : (allAtoms (Jvm.Cond.code x code maxLocals ret :: tables_1)).before args0 about1 = true := by
  rw [allAtoms_all]
  show words1.all (fun c => c.before args0 about1) = true
  refine all_split ?_ w_codes
  rw [← List.take_append_drop 24 words1, List.all_append, w_t1, ← List.take_append_drop 24 (words1.drop 24), List.all_append, w_t2, w_t3]
  rfl
set_option maxRecDepth 65536 in
theorem w_case : (Jvm.Cond.and given_1 narrow_1).before args0 about1 = true := by decide +kernel
theorem w_applies : (headSpec (Jvm.Cond.code x code maxLocals ret :: tables_1) room_1).applies x e0.platform about1 = true :=
  (Spec.applies_iff w_frames).mpr ⟨w_running, w_runnable, w_alone, w_named, w_hears, w_ripe, w_room, w_tables⟩
theorem atStart : AtStart classFile x code maxLocals ret World_1 tables_1 room_1 Calls_1 rest_1 Pre_1 launch0 p0 e0 about1 theMethod args0 below0 :=
  ⟨lists_1, trivial, launch0.admits_env _ _ _, launch0.least_env, fairChoices_fair.cas, fairChoices_fair.clock, w_frames, w_args, w_heap, w_applies, trivial, trivial, w_case⟩
end start1
theorem witness_1 : WitnessClaimed_1 := ⟨start1.p0, start1.e0, start1.about1, start1.theMethod, start1.args0, start1.below0, start1.atStart⟩
end Jvm.Pilot.@@N@@
