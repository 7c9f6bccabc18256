import JvmDerived
import JvmDerived.Pilot.@@N@@Statement
import JvmDerived.Pilot.@@N@@Code
set_option linter.unusedVariables false
set_option linter.unusedSimpArgs false
namespace Jvm.Pilot.@@N@@
open Jvm Jvm.ClassFile Sem Op Lib Jvm.Free Jvm.Stand Jvm.LawKit Jvm.RoadKit Bundle Jvm.Pilot.@@N@@.Jvm.D
section Own
theorem cut {P G : Prop} (f : P → G) (g : P) : G := f g
theorem ha_ge {h0 h : Heap} {a : Addr} (q : h0.size ≤ h.size) (e : a = h.size) : h0.size ≤ a := by rw [e]; exact q
/-- what stands fixed in one invocation's walk -/
abbrev Ev : Type := Program × Launch × Env × Room × State × MethodId × Array Value × List Frame × Method × Code × Nat × (Option Value → Heap → Prop)
def Dc (bytes : ByteArray) (pc : Nat) (i : Instr) (len pc' : Nat) : Prop := decode bytes pc = .ok (i, len) ∧ pc + len = pc'
def Db (bytes : ByteArray) (pc : Nat) (i : Instr) (o : Int) (pc1 pc2 : Nat) : Prop := decode bytes pc = .ok (i, 3) ∧ pc + 3 = pc1 ∧ 0 ≤ (pc : Int) + o ∧ ((pc : Int) + o).toNat = pc2
/-- from this heap, these counts, pc, locals and stack the invocation comes to a return of which its Q holds -/
def Wk : Ev → Heap → Nat → Nat → Nat → Array Slot → List Value → Prop
  | (p, l, e, R, s, m, args, below, meth, c, n0, Q), h, kc, kn, pc, ls, st => ∀ (T : State) (locs : List Loc), Stand p l e R s m args below meth c T locs kc kn → T.heap = h → Fr n0 locs →
    ∃ s₂ o, Steps p.tables e below (T.setTop (mkF m pc ls st)) s₂ ∧ s₂.status = .running ∧ Ended s₂ below o ∧ ∃ v L, o = .returned v ∧ (Q v s₂.heap ∧ Fr n0 L) ∧ FrameEnd s o s₂ L R.cells R.slots
def Kf (p : Program) (s : State) (m : MethodId) (meth : Method) (c : Code) (y : MethodName) (bytes : ByteArray) (ml : Nat) (rt : Option FieldType) (Z : State) (n0 : Nat) : Prop :=
  p.tables.exec = Jvm.exec ∧ c.code = bytes ∧ c.maxLocals = ml ∧ meth.sig.returnType = rt ∧ meth.locks = false ∧ Z.Warmed39 s.vm ∧ s.vm.findClass y.cls = some m.cls ∧ meth.name = y.name ∧ n0 ≤ s.heap.size
def Kx (E : Ev) (y : MethodName) (bytes : ByteArray) (ml : Nat) (rt : Option FieldType) (l : Launch) (Z : State) (R : Room) (n0 : Nat) (Q : Option Value → Heap → Prop) : Prop :=
  ∃ p e s m args below meth c, E = (p, l, e, R, s, m, args, below, meth, c, n0, Q) ∧ Kf p s m meth c y bytes ml rt Z n0
/-- a callee's contract at one heap and one row of arguments -/
def Con (l : Launch) (Z : State) (y : MethodName) (bytes : ByteArray) (ml : Nat) (rt : Option FieldType) (rm : Room) (as : Array Value) (h : Heap) (n0 : Nat) (Q : Option Value → Heap → Prop) : Prop :=
  n0 ≤ h.size → ∀ ws : List Jvm.Cond, MetFree l y (head1 (Jvm.Cond.code y bytes ml rt :: ws) rm) (fun a U => a = as ∧ Z.Warmed39 U.vm ∧ U.heap = h) (fun _ _ _ _ _ => True) (fun _ U o U' => ∃ v L, o = .returned v ∧ (Q v U'.heap ∧ Fr n0 L) ∧ FrameEnd U o U' L rm.cells rm.slots)
variable {E : Ev} {y : MethodName} {bytes : ByteArray} {ml : Nat} {rt : Option FieldType} {l : Launch} {Z : State} {R : Room} {n0 : Nat} {Q : Option Value → Heap → Prop} {a0 : Array Value} {h h' : Heap} {kc kn kc' kn' pc pc' pc1 pc2 : Nat} {ls ls' : Array Slot} {st : List Value} {a b : Addr}
theorem Con.of (pn : plainFor y = true) {as : Array Value} {rm : Room} (ef : ∀ m, entryFrame m as ml = mkF m 0 ls []) (body : ∀ E : Ev, Kx E y bytes ml rt l Z rm n0 Q → Wk E h 0 0 0 ls []) : Con l Z y bytes ml rt rm as h n0 Q := by
  intro hn ws
  refine MetFree.of_bodySF pn hisR ?_
  intro p e s m args below meth c s₁ Bd hml0 hP hK
  obtain ⟨ha, hZ, hh⟩ := hP
  subst ha
  have X0 : Stand p l e rm s m args below meth c s₁ [] 0 0 := Stand.of_body Bd
  have e0 : s₁.heap = h := by rw [← hh, Bd.state]; rfl
  obtain ⟨s₂, o, q, r⟩ := body (p, l, e, rm, s, m, args, below, meth, c, n0, Q) ⟨p, e, s, m, args, below, meth, c, rfl, Bd.exec, Bd.bytes, hml0, Bd.returns, Bd.notSynchronized, hZ, findClass_of_methodNamed Bd.named, (name_of_methodNamed Bd.named Bd.method).1, by rw [hh]; exact hn⟩ s₁ [] X0 e0 (Fr.nil n0)
  exact ⟨s₂, o, castTop (ef m) q, r⟩
theorem Kx.lift {st' : List Value} (K : Kx E y bytes ml rt l Z R n0 Q) (f : ∀ (p : Program) (e : Env) (s : State) (m : MethodId) (args : Array Value) (below : List Frame) (meth : Method) (c : Code), Kf p s m meth c y bytes ml rt Z n0 → ∀ (T : State) (locs : List Loc), Stand p l e R s m args below meth c T locs kc kn → T.heap = h → ∀ t, Steps p.tables e below (T.setTop (mkF m pc' ls' st)) t → Steps p.tables e below (T.setTop (mkF m pc ls st')) t) (k : Wk E h kc kn pc' ls' st) : Wk E h kc kn pc ls st' := by
  obtain ⟨p, e, s, m, args, below, meth, c, rfl, F⟩ := K
  intro T locs X eT N
  obtain ⟨s₂, o, q, r⟩ := k T locs X eT N
  exact ⟨s₂, o, f p e s m args below meth c F T locs X eT s₂ q, r⟩
theorem Kx.move (K : Kx E y bytes ml rt l Z R n0 Q) (f : ∀ (p : Program) (e : Env) (s : State) (m : MethodId) (args : Array Value) (below : List Frame) (meth : Method) (c : Code), Kf p s m meth c y bytes ml rt Z n0 → ∀ (T : State) (locs : List Loc), Stand p l e R s m args below meth c T locs kc kn → T.heap = h → Fr n0 locs →
    ∃ (T' : State) (locs' : List Loc) (h' : Heap) (kc' kn' pc' : Nat) (ls' : Array Slot) (st' : List Value), Stand p l e R s m args below meth c T' locs' kc' kn' ∧ T'.heap = h' ∧ Fr n0 locs' ∧ h.size ≤ h'.size ∧ Wk E h' kc' kn' pc' ls' st' ∧ ∀ t, Steps p.tables e below (T'.setTop (mkF m pc' ls' st')) t → Steps p.tables e below (T.setTop (mkF m pc ls st)) t) : Wk E h kc kn pc ls st := by
  obtain ⟨p, e, s, m, args, below, meth, c, rfl, F⟩ := K
  intro T locs X eT N
  obtain ⟨T', locs', h', kc', kn', pc', ls', st', X', e', N', -, k, q'⟩ := f p e s m args below meth c F T locs X eT N
  obtain ⟨s₂, o, q, r⟩ := k T' locs' X' e' N'
  exact ⟨s₂, o, q' _ q, r⟩

theorem Kx.aloadN (K : Kx E y bytes ml rt l Z R n0 Q) {k : Fin 4} {v : Value} (hd : Dc bytes pc (.aload_n k) 1 pc') (hl : ls[k.val]? = some (.val v)) (hv : v.isRef = true) (k : Wk E h kc kn pc' ls (v :: st)) : Wk E h kc kn pc ls st := by
  obtain ⟨hd, rfl⟩ := hd
  exact K.lift (fun p e s m args below meth c F T locs X eT t q => XS.aloadN X.here F.1 rfl (hb F.2.1 hd) hl hv q) k
theorem Kx.iloadN (K : Kx E y bytes ml rt l Z R n0 Q) {k : Fin 4} {v : Int32} (hd : Dc bytes pc (.iload_n k) 1 pc') (hl : ls[k.val]? = some (.val (.int v))) (k : Wk E h kc kn pc' ls (.int v :: st)) : Wk E h kc kn pc ls st := by
  obtain ⟨hd, rfl⟩ := hd
  exact K.lift (fun p e s m args below meth c F T locs X eT t q => XS.iloadN X.here F.1 rfl (hb F.2.1 hd) hl q) k
theorem Kx.lloadN (K : Kx E y bytes ml rt l Z R n0 Q) {k : Fin 4} {v : Int64} (hd : Dc bytes pc (.lload_n k) 1 pc') (hl : ls[k.val]? = some (.val (.long v))) (k : Wk E h kc kn pc' ls (.long v :: st)) : Wk E h kc kn pc ls st := by
  obtain ⟨hd, rfl⟩ := hd
  exact K.lift (fun p e s m args below meth c F T locs X eT t q => XS.lloadN X.here F.1 rfl (hb F.2.1 hd) hl q) k
theorem Kx.istoreN (K : Kx E y bytes ml rt l Z R n0 Q) {k : Fin 4} {x : Int32} (ls' : Array Slot) (hd : Dc bytes pc (.istore_n k) 1 pc') (hl : storeLocals ls k.val (.int x) = some ls') (k : Wk E h kc kn pc' ls' st) : Wk E h kc kn pc ls (.int x :: st) := by
  obtain ⟨hd, rfl⟩ := hd
  exact K.lift (fun p e s m args below meth c F T locs X eT t q => XS.istoreN X.here F.1 rfl (hb F.2.1 hd) rfl hl q) k
theorem Kx.lstoreN (K : Kx E y bytes ml rt l Z R n0 Q) {k : Fin 4} {x : Int64} (ls' : Array Slot) (hd : Dc bytes pc (.lstore_n k) 1 pc') (hl : storeLocals ls k.val (.long x) = some ls') (k : Wk E h kc kn pc' ls' st) : Wk E h kc kn pc ls (.long x :: st) := by
  obtain ⟨hd, rfl⟩ := hd
  exact K.lift (fun p e s m args below meth c F T locs X eT t q => XS.lstoreN X.here F.1 rfl (hb F.2.1 hd) rfl hl q) k
theorem Kx.astoreN (K : Kx E y bytes ml rt l Z R n0 Q) {k : Fin 4} {x : Value} (ls' : Array Slot) (hd : Dc bytes pc (.astore_n k) 1 pc') (hv : x.isRef = true) (hl : storeLocals ls k.val x = some ls') (k : Wk E h kc kn pc' ls' st) : Wk E h kc kn pc ls (x :: st) := by
  obtain ⟨hd, rfl⟩ := hd
  exact K.lift (fun p e s m args below meth c F T locs X eT t q => XS.astoreN X.here F.1 rfl (hb F.2.1 hd) rfl hv hl q) k
theorem Kx.aload (K : Kx E y bytes ml rt l Z R n0 Q) {k : Nat} {v : Value} (hd : Dc bytes pc (.aload k) 2 pc') (hl : ls[k]? = some (.val v)) (hv : v.isRef = true) (k : Wk E h kc kn pc' ls (v :: st)) : Wk E h kc kn pc ls st := by
  obtain ⟨hd, rfl⟩ := hd
  exact K.lift (fun p e s m args below meth c F T locs X eT t q => XS.aload X.here F.1 rfl (hb F.2.1 hd) hl hv q) k
theorem Kx.iload (K : Kx E y bytes ml rt l Z R n0 Q) {k : Nat} {v : Int32} (hd : Dc bytes pc (.iload k) 2 pc') (hl : ls[k]? = some (.val (.int v))) (k : Wk E h kc kn pc' ls (.int v :: st)) : Wk E h kc kn pc ls st := by
  obtain ⟨hd, rfl⟩ := hd
  exact K.lift (fun p e s m args below meth c F T locs X eT t q => XS.iload X.here F.1 rfl (hb F.2.1 hd) hl q) k
theorem Kx.lload (K : Kx E y bytes ml rt l Z R n0 Q) {k : Nat} {v : Int64} (hd : Dc bytes pc (.lload k) 2 pc') (hl : ls[k]? = some (.val (.long v))) (k : Wk E h kc kn pc' ls (.long v :: st)) : Wk E h kc kn pc ls st := by
  obtain ⟨hd, rfl⟩ := hd
  exact K.lift (fun p e s m args below meth c F T locs X eT t q => XS.lload X.here F.1 rfl (hb F.2.1 hd) hl q) k
theorem Kx.istore (K : Kx E y bytes ml rt l Z R n0 Q) {k : Nat} {x : Int32} (ls' : Array Slot) (hd : Dc bytes pc (.istore k) 2 pc') (hl : storeLocals ls k (.int x) = some ls') (k : Wk E h kc kn pc' ls' st) : Wk E h kc kn pc ls (.int x :: st) := by
  obtain ⟨hd, rfl⟩ := hd
  exact K.lift (fun p e s m args below meth c F T locs X eT t q => XS.istore X.here F.1 rfl (hb F.2.1 hd) rfl hl q) k
theorem Kx.lstore (K : Kx E y bytes ml rt l Z R n0 Q) {k : Nat} {x : Int64} (ls' : Array Slot) (hd : Dc bytes pc (.lstore k) 2 pc') (hl : storeLocals ls k (.long x) = some ls') (k : Wk E h kc kn pc' ls' st) : Wk E h kc kn pc ls (.long x :: st) := by
  obtain ⟨hd, rfl⟩ := hd
  exact K.lift (fun p e s m args below meth c F T locs X eT t q => XS.lstore X.here F.1 rfl (hb F.2.1 hd) rfl hl q) k
theorem Kx.astore (K : Kx E y bytes ml rt l Z R n0 Q) {k : Nat} {x : Value} (ls' : Array Slot) (hd : Dc bytes pc (.astore k) 2 pc') (hv : x.isRef = true) (hl : storeLocals ls k x = some ls') (k : Wk E h kc kn pc' ls' st) : Wk E h kc kn pc ls (x :: st) := by
  obtain ⟨hd, rfl⟩ := hd
  exact K.lift (fun p e s m args below meth c F T locs X eT t q => XS.astore X.here F.1 rfl (hb F.2.1 hd) rfl hv hl q) k
theorem Kx.iinc (K : Kx E y bytes ml rt l Z R n0 Q) {k : Nat} {cst : Int} {x : Int32} (z : Int32) (ls' : Array Slot) (hd : Dc bytes pc (.iinc k cst) 3 pc') (hl : ls[k]? = some (.val (.int x))) (hz : x + Int32.ofInt cst = z) (hl' : storeLocals ls k (.int z) = some ls') (k : Wk E h kc kn pc' ls' st) : Wk E h kc kn pc ls st := by
  obtain ⟨hd, rfl⟩ := hd
  exact K.lift (fun p e s m args below meth c F T locs X eT t q => XS.iinc X.here F.1 rfl (hb F.2.1 hd) hl (by rw [hz]; exact hl') q) k
theorem Kx.iconst (K : Kx E y bytes ml rt l Z R n0 Q) {i : Int} (z : Int32) (hd : Dc bytes pc (.iconst i) 1 pc') (hz : Int32.ofInt i = z) (k : Wk E h kc kn pc' ls (.int z :: st)) : Wk E h kc kn pc ls st := by
  obtain ⟨hd, rfl⟩ := hd
  exact K.lift (fun p e s m args below meth c F T locs X eT t q => XS.iconst X.here F.1 rfl (hb F.2.1 hd) (by rw [hz]; exact q)) k
theorem Kx.lconst (K : Kx E y bytes ml rt l Z R n0 Q) {i : Fin 2} (z : Int64) (hd : Dc bytes pc (.lconst i) 1 pc') (hz : Int64.ofNat i = z) (k : Wk E h kc kn pc' ls (.long z :: st)) : Wk E h kc kn pc ls st := by
  obtain ⟨hd, rfl⟩ := hd
  exact K.lift (fun p e s m args below meth c F T locs X eT t q => XS.lconst X.here F.1 rfl (hb F.2.1 hd) (by rw [hz]; exact q)) k
theorem Kx.bipush (K : Kx E y bytes ml rt l Z R n0 Q) {i : Int} (z : Int32) (hd : Dc bytes pc (.bipush i) 2 pc') (hz : (Int8.ofInt i).toInt32 = z) (k : Wk E h kc kn pc' ls (.int z :: st)) : Wk E h kc kn pc ls st := by
  obtain ⟨hd, rfl⟩ := hd
  exact K.lift (fun p e s m args below meth c F T locs X eT t q => XS.bipush X.here F.1 rfl (hb F.2.1 hd) (by rw [hz]; exact q)) k
theorem Kx.sipush (K : Kx E y bytes ml rt l Z R n0 Q) {i : Int} (z : Int32) (hd : Dc bytes pc (.sipush i) 3 pc') (hz : (Int16.ofInt i).toInt32 = z) (k : Wk E h kc kn pc' ls (.int z :: st)) : Wk E h kc kn pc ls st := by
  obtain ⟨hd, rfl⟩ := hd
  exact K.lift (fun p e s m args below meth c F T locs X eT t q => XS.sipush X.here F.1 rfl (hb F.2.1 hd) (by rw [hz]; exact q)) k
theorem Kx.aconst_null (K : Kx E y bytes ml rt l Z R n0 Q)  (hd : Dc bytes pc .aconst_null 1 pc') (k : Wk E h kc kn pc' ls (.null :: st)) : Wk E h kc kn pc ls st := by
  obtain ⟨hd, rfl⟩ := hd
  exact K.lift (fun p e s m args below meth c F T locs X eT t q => XS.aconstNull X.here F.1 rfl (hb F.2.1 hd) q) k
theorem Kx.iadd (K : Kx E y bytes ml rt l Z R n0 Q) {x y' : Int32} (hd : Dc bytes pc .iadd 1 pc') (k : Wk E h kc kn pc' ls (.int (x + y') :: st)) : Wk E h kc kn pc ls (.int y' :: .int x :: st) := by
  obtain ⟨hd, rfl⟩ := hd
  exact K.lift (fun p e s m args below meth c F T locs X eT t q => XS.iadd X.here F.1 rfl (hb F.2.1 hd) rfl q) k
theorem Kx.isub (K : Kx E y bytes ml rt l Z R n0 Q) {x y' : Int32} (hd : Dc bytes pc .isub 1 pc') (k : Wk E h kc kn pc' ls (.int (x - y') :: st)) : Wk E h kc kn pc ls (.int y' :: .int x :: st) := by
  obtain ⟨hd, rfl⟩ := hd
  exact K.lift (fun p e s m args below meth c F T locs X eT t q => XS.isub X.here F.1 rfl (hb F.2.1 hd) rfl q) k
theorem Kx.imul (K : Kx E y bytes ml rt l Z R n0 Q) {x y' : Int32} (hd : Dc bytes pc .imul 1 pc') (k : Wk E h kc kn pc' ls (.int (x * y') :: st)) : Wk E h kc kn pc ls (.int y' :: .int x :: st) := by
  obtain ⟨hd, rfl⟩ := hd
  exact K.lift (fun p e s m args below meth c F T locs X eT t q => XS.imul X.here F.1 rfl (hb F.2.1 hd) rfl q) k
theorem Kx.iand (K : Kx E y bytes ml rt l Z R n0 Q) {x y' : Int32} (hd : Dc bytes pc .iand 1 pc') (k : Wk E h kc kn pc' ls (.int (x &&& y') :: st)) : Wk E h kc kn pc ls (.int y' :: .int x :: st) := by
  obtain ⟨hd, rfl⟩ := hd
  exact K.lift (fun p e s m args below meth c F T locs X eT t q => XS.iand X.here F.1 rfl (hb F.2.1 hd) rfl q) k
theorem Kx.ior (K : Kx E y bytes ml rt l Z R n0 Q) {x y' : Int32} (hd : Dc bytes pc .ior 1 pc') (k : Wk E h kc kn pc' ls (.int (x ||| y') :: st)) : Wk E h kc kn pc ls (.int y' :: .int x :: st) := by
  obtain ⟨hd, rfl⟩ := hd
  exact K.lift (fun p e s m args below meth c F T locs X eT t q => XS.ior X.here F.1 rfl (hb F.2.1 hd) rfl q) k
theorem Kx.ixor (K : Kx E y bytes ml rt l Z R n0 Q) {x y' : Int32} (hd : Dc bytes pc .ixor 1 pc') (k : Wk E h kc kn pc' ls (.int (x ^^^ y') :: st)) : Wk E h kc kn pc ls (.int y' :: .int x :: st) := by
  obtain ⟨hd, rfl⟩ := hd
  exact K.lift (fun p e s m args below meth c F T locs X eT t q => XS.ixor X.here F.1 rfl (hb F.2.1 hd) rfl q) k
theorem Kx.ishl (K : Kx E y bytes ml rt l Z R n0 Q) {x y' : Int32} (hd : Dc bytes pc .ishl 1 pc') (k : Wk E h kc kn pc' ls (.int (x <<< (y' &&& 31)) :: st)) : Wk E h kc kn pc ls (.int y' :: .int x :: st) := by
  obtain ⟨hd, rfl⟩ := hd
  exact K.lift (fun p e s m args below meth c F T locs X eT t q => XS.ishl X.here F.1 rfl (hb F.2.1 hd) rfl q) k
theorem Kx.ishr (K : Kx E y bytes ml rt l Z R n0 Q) {x y' : Int32} (hd : Dc bytes pc .ishr 1 pc') (k : Wk E h kc kn pc' ls (.int (x >>> (y' &&& 31)) :: st)) : Wk E h kc kn pc ls (.int y' :: .int x :: st) := by
  obtain ⟨hd, rfl⟩ := hd
  exact K.lift (fun p e s m args below meth c F T locs X eT t q => XS.ishr X.here F.1 rfl (hb F.2.1 hd) rfl q) k
theorem Kx.iushr (K : Kx E y bytes ml rt l Z R n0 Q) {x y' : Int32} (hd : Dc bytes pc .iushr 1 pc') (k : Wk E h kc kn pc' ls (.int ((x.toUInt32 >>> (y' &&& 31).toUInt32).toInt32) :: st)) : Wk E h kc kn pc ls (.int y' :: .int x :: st) := by
  obtain ⟨hd, rfl⟩ := hd
  exact K.lift (fun p e s m args below meth c F T locs X eT t q => XS.iushr X.here F.1 rfl (hb F.2.1 hd) rfl q) k
theorem Kx.ladd (K : Kx E y bytes ml rt l Z R n0 Q) {x y' : Int64} (hd : Dc bytes pc .ladd 1 pc') (k : Wk E h kc kn pc' ls (.long (x + y') :: st)) : Wk E h kc kn pc ls (.long y' :: .long x :: st) := by
  obtain ⟨hd, rfl⟩ := hd
  exact K.lift (fun p e s m args below meth c F T locs X eT t q => XS.ladd X.here F.1 rfl (hb F.2.1 hd) rfl q) k
theorem Kx.lsub (K : Kx E y bytes ml rt l Z R n0 Q) {x y' : Int64} (hd : Dc bytes pc .lsub 1 pc') (k : Wk E h kc kn pc' ls (.long (x - y') :: st)) : Wk E h kc kn pc ls (.long y' :: .long x :: st) := by
  obtain ⟨hd, rfl⟩ := hd
  exact K.lift (fun p e s m args below meth c F T locs X eT t q => XS.lsub X.here F.1 rfl (hb F.2.1 hd) rfl q) k
theorem Kx.lmul (K : Kx E y bytes ml rt l Z R n0 Q) {x y' : Int64} (hd : Dc bytes pc .lmul 1 pc') (k : Wk E h kc kn pc' ls (.long (x * y') :: st)) : Wk E h kc kn pc ls (.long y' :: .long x :: st) := by
  obtain ⟨hd, rfl⟩ := hd
  exact K.lift (fun p e s m args below meth c F T locs X eT t q => XS.lmul X.here F.1 rfl (hb F.2.1 hd) rfl q) k
theorem Kx.land (K : Kx E y bytes ml rt l Z R n0 Q) {x y' : Int64} (hd : Dc bytes pc .land 1 pc') (k : Wk E h kc kn pc' ls (.long (x &&& y') :: st)) : Wk E h kc kn pc ls (.long y' :: .long x :: st) := by
  obtain ⟨hd, rfl⟩ := hd
  exact K.lift (fun p e s m args below meth c F T locs X eT t q => XS.land X.here F.1 rfl (hb F.2.1 hd) rfl q) k
theorem Kx.lor (K : Kx E y bytes ml rt l Z R n0 Q) {x y' : Int64} (hd : Dc bytes pc .lor 1 pc') (k : Wk E h kc kn pc' ls (.long (x ||| y') :: st)) : Wk E h kc kn pc ls (.long y' :: .long x :: st) := by
  obtain ⟨hd, rfl⟩ := hd
  exact K.lift (fun p e s m args below meth c F T locs X eT t q => XS.lor X.here F.1 rfl (hb F.2.1 hd) rfl q) k
theorem Kx.lxor (K : Kx E y bytes ml rt l Z R n0 Q) {x y' : Int64} (hd : Dc bytes pc .lxor 1 pc') (k : Wk E h kc kn pc' ls (.long (x ^^^ y') :: st)) : Wk E h kc kn pc ls (.long y' :: .long x :: st) := by
  obtain ⟨hd, rfl⟩ := hd
  exact K.lift (fun p e s m args below meth c F T locs X eT t q => XS.lxor X.here F.1 rfl (hb F.2.1 hd) rfl q) k
theorem Kx.lshl (K : Kx E y bytes ml rt l Z R n0 Q) {x : Int64} {y' : Int32} (hd : Dc bytes pc .lshl 1 pc') (k : Wk E h kc kn pc' ls (.long (x <<< (y' &&& 63).toInt64) :: st)) : Wk E h kc kn pc ls (.int y' :: .long x :: st) := by
  obtain ⟨hd, rfl⟩ := hd
  exact K.lift (fun p e s m args below meth c F T locs X eT t q => XS.lshl X.here F.1 rfl (hb F.2.1 hd) rfl q) k
theorem Kx.lshr (K : Kx E y bytes ml rt l Z R n0 Q) {x : Int64} {y' : Int32} (hd : Dc bytes pc .lshr 1 pc') (k : Wk E h kc kn pc' ls (.long (x >>> (y' &&& 63).toInt64) :: st)) : Wk E h kc kn pc ls (.int y' :: .long x :: st) := by
  obtain ⟨hd, rfl⟩ := hd
  exact K.lift (fun p e s m args below meth c F T locs X eT t q => XS.lshr X.here F.1 rfl (hb F.2.1 hd) rfl q) k
theorem Kx.lushr (K : Kx E y bytes ml rt l Z R n0 Q) {x : Int64} {y' : Int32} (hd : Dc bytes pc .lushr 1 pc') (k : Wk E h kc kn pc' ls (.long ((x.toUInt64 >>> (y' &&& 63).toInt64.toUInt64).toInt64) :: st)) : Wk E h kc kn pc ls (.int y' :: .long x :: st) := by
  obtain ⟨hd, rfl⟩ := hd
  exact K.lift (fun p e s m args below meth c F T locs X eT t q => XS.lushr X.here F.1 rfl (hb F.2.1 hd) rfl q) k
theorem Kx.idiv (K : Kx E y bytes ml rt l Z R n0 Q) {x y' : Int32} (hd : Dc bytes pc .idiv 1 pc') (hy : y' ≠ 0) (k : Wk E h kc kn pc' ls (.int (x / y') :: st)) : Wk E h kc kn pc ls (.int y' :: .int x :: st) := by
  obtain ⟨hd, rfl⟩ := hd
  exact K.lift (fun p e s m args below meth c F T locs X eT t q => XS.idiv X.here F.1 rfl (hb F.2.1 hd) rfl hy q) k
theorem Kx.irem (K : Kx E y bytes ml rt l Z R n0 Q) {x y' : Int32} (hd : Dc bytes pc .irem 1 pc') (hy : y' ≠ 0) (k : Wk E h kc kn pc' ls (.int (x % y') :: st)) : Wk E h kc kn pc ls (.int y' :: .int x :: st) := by
  obtain ⟨hd, rfl⟩ := hd
  exact K.lift (fun p e s m args below meth c F T locs X eT t q => RoadKit.iremM X F.1 rfl (hb F.2.1 hd) rfl hy q) k
theorem Kx.ldiv (K : Kx E y bytes ml rt l Z R n0 Q) {x y' : Int64} (hd : Dc bytes pc .ldiv 1 pc') (hy : y' ≠ 0) (k : Wk E h kc kn pc' ls (.long (x / y') :: st)) : Wk E h kc kn pc ls (.long y' :: .long x :: st) := by
  obtain ⟨hd, rfl⟩ := hd
  exact K.lift (fun p e s m args below meth c F T locs X eT t q => XS.ldiv X.here F.1 rfl (hb F.2.1 hd) rfl hy q) k
theorem Kx.lrem (K : Kx E y bytes ml rt l Z R n0 Q) {x y' : Int64} (hd : Dc bytes pc .lrem 1 pc') (hy : y' ≠ 0) (k : Wk E h kc kn pc' ls (.long (x % y') :: st)) : Wk E h kc kn pc ls (.long y' :: .long x :: st) := by
  obtain ⟨hd, rfl⟩ := hd
  exact K.lift (fun p e s m args below meth c F T locs X eT t q => XS.lrem X.here F.1 rfl (hb F.2.1 hd) rfl hy (by rw [lrem_mod]; exact q)) k
theorem Kx.ineg (K : Kx E y bytes ml rt l Z R n0 Q) {x : Int32} (hd : Dc bytes pc .ineg 1 pc') (k : Wk E h kc kn pc' ls (.int (-x) :: st)) : Wk E h kc kn pc ls (.int x :: st) := by
  obtain ⟨hd, rfl⟩ := hd
  exact K.lift (fun p e s m args below meth c F T locs X eT t q => XS.ineg X.here F.1 rfl (hb F.2.1 hd) rfl q) k
theorem Kx.lneg (K : Kx E y bytes ml rt l Z R n0 Q) {x : Int64} (hd : Dc bytes pc .lneg 1 pc') (k : Wk E h kc kn pc' ls (.long (-x) :: st)) : Wk E h kc kn pc ls (.long x :: st) := by
  obtain ⟨hd, rfl⟩ := hd
  exact K.lift (fun p e s m args below meth c F T locs X eT t q => XS.lneg X.here F.1 rfl (hb F.2.1 hd) rfl q) k
theorem Kx.i2l (K : Kx E y bytes ml rt l Z R n0 Q) {x : Int32} (hd : Dc bytes pc .i2l 1 pc') (k : Wk E h kc kn pc' ls (.long (x.toInt64) :: st)) : Wk E h kc kn pc ls (.int x :: st) := by
  obtain ⟨hd, rfl⟩ := hd
  exact K.lift (fun p e s m args below meth c F T locs X eT t q => XS.i2l X.here F.1 rfl (hb F.2.1 hd) rfl q) k
theorem Kx.l2i (K : Kx E y bytes ml rt l Z R n0 Q) {x : Int64} (hd : Dc bytes pc .l2i 1 pc') (k : Wk E h kc kn pc' ls (.int (x.toInt32) :: st)) : Wk E h kc kn pc ls (.long x :: st) := by
  obtain ⟨hd, rfl⟩ := hd
  exact K.lift (fun p e s m args below meth c F T locs X eT t q => XS.l2i X.here F.1 rfl (hb F.2.1 hd) rfl q) k
theorem Kx.i2b (K : Kx E y bytes ml rt l Z R n0 Q) {x : Int32} (hd : Dc bytes pc .i2b 1 pc') (k : Wk E h kc kn pc' ls (.int (x.toInt8.toInt32) :: st)) : Wk E h kc kn pc ls (.int x :: st) := by
  obtain ⟨hd, rfl⟩ := hd
  exact K.lift (fun p e s m args below meth c F T locs X eT t q => XS.i2b X.here F.1 rfl (hb F.2.1 hd) rfl q) k
theorem Kx.i2c (K : Kx E y bytes ml rt l Z R n0 Q) {x : Int32} (hd : Dc bytes pc .i2c 1 pc') (k : Wk E h kc kn pc' ls (.int (x.toUInt32.toUInt16.toUInt32.toInt32) :: st)) : Wk E h kc kn pc ls (.int x :: st) := by
  obtain ⟨hd, rfl⟩ := hd
  exact K.lift (fun p e s m args below meth c F T locs X eT t q => XS.i2c X.here F.1 rfl (hb F.2.1 hd) rfl q) k
theorem Kx.i2s (K : Kx E y bytes ml rt l Z R n0 Q) {x : Int32} (hd : Dc bytes pc .i2s 1 pc') (k : Wk E h kc kn pc' ls (.int (x.toInt16.toInt32) :: st)) : Wk E h kc kn pc ls (.int x :: st) := by
  obtain ⟨hd, rfl⟩ := hd
  exact K.lift (fun p e s m args below meth c F T locs X eT t q => XS.i2s X.here F.1 rfl (hb F.2.1 hd) rfl q) k
theorem Kx.dup (K : Kx E y bytes ml rt l Z R n0 Q) {x : Value} (hd : Dc bytes pc .dup 1 pc') (hc : x.category = 1) (k : Wk E h kc kn pc' ls (x :: x :: st)) : Wk E h kc kn pc ls (x :: st) := by
  obtain ⟨hd, rfl⟩ := hd
  exact K.lift (fun p e s m args below meth c F T locs X eT t q => XS.dup X.here F.1 rfl (hb F.2.1 hd) rfl hc q) k
theorem Kx.pop (K : Kx E y bytes ml rt l Z R n0 Q) {x : Value} (hd : Dc bytes pc .pop 1 pc') (hc : x.category = 1) (k : Wk E h kc kn pc' ls st) : Wk E h kc kn pc ls (x :: st) := by
  obtain ⟨hd, rfl⟩ := hd
  exact K.lift (fun p e s m args below meth c F T locs X eT t q => XS.pop X.here F.1 rfl (hb F.2.1 hd) rfl hc q) k
theorem Kx.dup_x1 (K : Kx E y bytes ml rt l Z R n0 Q) {x x' : Value} (hd : Dc bytes pc .dup_x1 1 pc') (hc : x.category = 1) (hc' : x'.category = 1) (k : Wk E h kc kn pc' ls (x :: x' :: x :: st)) : Wk E h kc kn pc ls (x :: x' :: st) := by
  obtain ⟨hd, rfl⟩ := hd
  exact K.lift (fun p e s m args below meth c F T locs X eT t q => XS.dupX1 X.here F.1 rfl (hb F.2.1 hd) rfl hc hc' q) k
theorem Kx.dup2 (K : Kx E y bytes ml rt l Z R n0 Q) {x x' : Value} (hd : Dc bytes pc .dup2 1 pc') (hc : x.category = 1) (hc' : x'.category = 1) (k : Wk E h kc kn pc' ls (x :: x' :: x :: x' :: st)) : Wk E h kc kn pc ls (x :: x' :: st) := by
  obtain ⟨hd, rfl⟩ := hd
  exact K.lift (fun p e s m args below meth c F T locs X eT t q => Jvm.Free.XT.dup2 X.here F.1 rfl (hb F.2.1 hd) rfl hc hc' q) k
theorem Kx.ldcI (K : Kx E y bytes ml rt l Z R n0 Q) {i : Nat} {v : Int32} (hd : Dc bytes pc (.ldc i) 2 pc') (w : (Jvm.Cond.constant y.cls i v).before a0 Z = true) (k : Wk E h kc kn pc' ls (.int v :: st)) : Wk E h kc kn pc ls st := by
  obtain ⟨hd, rfl⟩ := hd
  exact K.lift (fun p e s m args below meth c F T locs X eT t q => X.ldcI F.1 F.2.2.2.2.2.2.1 (mvT F.2.2.2.2.2.1 w) rfl (hb F.2.1 hd) q) k
theorem Kx.ldc2J (K : Kx E y bytes ml rt l Z R n0 Q) {i : Nat} {v : Int64} (hd : Dc bytes pc (.ldc2_w i) 3 pc') (w : (Jvm.Cond.constantLong y.cls i v).before a0 Z = true) (k : Wk E h kc kn pc' ls (.long v :: st)) : Wk E h kc kn pc ls st := by
  obtain ⟨hd, rfl⟩ := hd
  exact K.lift (fun p e s m args below meth c F T locs X eT t q => X.ldc2J F.1 F.2.2.2.2.2.2.1 (mvT F.2.2.2.2.2.1 w) rfl (hb F.2.1 hd) q) k
theorem Kx.goto (K : Kx E y bytes ml rt l Z R n0 Q) {o : Int} (hd : Db bytes pc (.goto o) o pc1 pc2) (k : Wk E h kc kn pc2 ls st) : Wk E h kc kn pc ls st := by
  obtain ⟨hd, -, h0, h1⟩ := hd
  exact K.lift (fun p e s m args below meth c F T locs X eT t q => XS.goto X.here F.1 rfl rfl (hb F.2.1 hd) h0 h1 q) k
theorem Kx.ic_eq (K : Kx E y bytes ml rt l Z R n0 Q) {o : Int} {x y' : Int32} (hd : Db bytes pc (.if_icmp .eq o) o pc1 pc2) (k1 : x = y' → Wk E h kc kn pc2 ls st) (k2 : ¬ x = y' → Wk E h kc kn pc1 ls st) : Wk E h kc kn pc ls (.int y' :: .int x :: st) := by
  obtain ⟨hd, rfl, h0, h1⟩ := hd
  by_cases u : x = y'
  · exact K.lift (fun p e s m args below meth c F T locs X eT t q => XS.icmpYes X.here F.1 rfl rfl (hb F.2.1 hd) rfl (teq u).1 h0 h1 q) (k1 u)
  · exact K.lift (fun p e s m args below meth c F T locs X eT t q => XS.icmpNo X.here F.1 rfl (hb F.2.1 hd) rfl (feq u).1 q) (k2 u)
theorem Kx.if_eq (K : Kx E y bytes ml rt l Z R n0 Q) {o : Int} {x : Int32} (hd : Db bytes pc (.ifCond .eq o) o pc1 pc2) (k1 : x = 0 → Wk E h kc kn pc2 ls st) (k2 : ¬ x = 0 → Wk E h kc kn pc1 ls st) : Wk E h kc kn pc ls (.int x :: st) := by
  obtain ⟨hd, rfl, h0, h1⟩ := hd
  by_cases u : x = 0
  · exact K.lift (fun p e s m args below meth c F T locs X eT t q => XS.ifYes X.here F.1 rfl rfl (hb F.2.1 hd) rfl ((if0 _ _).trans (teq u).1) h0 h1 q) (k1 u)
  · exact K.lift (fun p e s m args below meth c F T locs X eT t q => XS.ifNo X.here F.1 rfl (hb F.2.1 hd) rfl ((if0 _ _).trans (feq u).1) q) (k2 u)
theorem Kx.ic_ne (K : Kx E y bytes ml rt l Z R n0 Q) {o : Int} {x y' : Int32} (hd : Db bytes pc (.if_icmp .ne o) o pc1 pc2) (k1 : x = y' → Wk E h kc kn pc1 ls st) (k2 : ¬ x = y' → Wk E h kc kn pc2 ls st) : Wk E h kc kn pc ls (.int y' :: .int x :: st) := by
  obtain ⟨hd, rfl, h0, h1⟩ := hd
  by_cases u : x = y'
  · exact K.lift (fun p e s m args below meth c F T locs X eT t q => XS.icmpNo X.here F.1 rfl (hb F.2.1 hd) rfl (teq u).2 q) (k1 u)
  · exact K.lift (fun p e s m args below meth c F T locs X eT t q => XS.icmpYes X.here F.1 rfl rfl (hb F.2.1 hd) rfl (feq u).2 h0 h1 q) (k2 u)
theorem Kx.if_ne (K : Kx E y bytes ml rt l Z R n0 Q) {o : Int} {x : Int32} (hd : Db bytes pc (.ifCond .ne o) o pc1 pc2) (k1 : x = 0 → Wk E h kc kn pc1 ls st) (k2 : ¬ x = 0 → Wk E h kc kn pc2 ls st) : Wk E h kc kn pc ls (.int x :: st) := by
  obtain ⟨hd, rfl, h0, h1⟩ := hd
  by_cases u : x = 0
  · exact K.lift (fun p e s m args below meth c F T locs X eT t q => XS.ifNo X.here F.1 rfl (hb F.2.1 hd) rfl ((if0 _ _).trans (teq u).2) q) (k1 u)
  · exact K.lift (fun p e s m args below meth c F T locs X eT t q => XS.ifYes X.here F.1 rfl rfl (hb F.2.1 hd) rfl ((if0 _ _).trans (feq u).2) h0 h1 q) (k2 u)
theorem Kx.ic_lt (K : Kx E y bytes ml rt l Z R n0 Q) {o : Int} {x y' : Int32} (hd : Db bytes pc (.if_icmp .lt o) o pc1 pc2) (k1 : x < y' → Wk E h kc kn pc2 ls st) (k2 : ¬ x < y' → Wk E h kc kn pc1 ls st) : Wk E h kc kn pc ls (.int y' :: .int x :: st) := by
  obtain ⟨hd, rfl, h0, h1⟩ := hd
  by_cases u : x < y'
  · exact K.lift (fun p e s m args below meth c F T locs X eT t q => XS.icmpYes X.here F.1 rfl rfl (hb F.2.1 hd) rfl (tlt u).1 h0 h1 q) (k1 u)
  · exact K.lift (fun p e s m args below meth c F T locs X eT t q => XS.icmpNo X.here F.1 rfl (hb F.2.1 hd) rfl (flt u).1 q) (k2 u)
theorem Kx.if_lt (K : Kx E y bytes ml rt l Z R n0 Q) {o : Int} {x : Int32} (hd : Db bytes pc (.ifCond .lt o) o pc1 pc2) (k1 : x < 0 → Wk E h kc kn pc2 ls st) (k2 : ¬ x < 0 → Wk E h kc kn pc1 ls st) : Wk E h kc kn pc ls (.int x :: st) := by
  obtain ⟨hd, rfl, h0, h1⟩ := hd
  by_cases u : x < 0
  · exact K.lift (fun p e s m args below meth c F T locs X eT t q => XS.ifYes X.here F.1 rfl rfl (hb F.2.1 hd) rfl ((if0 _ _).trans (tlt u).1) h0 h1 q) (k1 u)
  · exact K.lift (fun p e s m args below meth c F T locs X eT t q => XS.ifNo X.here F.1 rfl (hb F.2.1 hd) rfl ((if0 _ _).trans (flt u).1) q) (k2 u)
theorem Kx.ic_ge (K : Kx E y bytes ml rt l Z R n0 Q) {o : Int} {x y' : Int32} (hd : Db bytes pc (.if_icmp .ge o) o pc1 pc2) (k1 : x < y' → Wk E h kc kn pc1 ls st) (k2 : ¬ x < y' → Wk E h kc kn pc2 ls st) : Wk E h kc kn pc ls (.int y' :: .int x :: st) := by
  obtain ⟨hd, rfl, h0, h1⟩ := hd
  by_cases u : x < y'
  · exact K.lift (fun p e s m args below meth c F T locs X eT t q => XS.icmpNo X.here F.1 rfl (hb F.2.1 hd) rfl (tlt u).2.1 q) (k1 u)
  · exact K.lift (fun p e s m args below meth c F T locs X eT t q => XS.icmpYes X.here F.1 rfl rfl (hb F.2.1 hd) rfl (flt u).2.1 h0 h1 q) (k2 u)
theorem Kx.if_ge (K : Kx E y bytes ml rt l Z R n0 Q) {o : Int} {x : Int32} (hd : Db bytes pc (.ifCond .ge o) o pc1 pc2) (k1 : x < 0 → Wk E h kc kn pc1 ls st) (k2 : ¬ x < 0 → Wk E h kc kn pc2 ls st) : Wk E h kc kn pc ls (.int x :: st) := by
  obtain ⟨hd, rfl, h0, h1⟩ := hd
  by_cases u : x < 0
  · exact K.lift (fun p e s m args below meth c F T locs X eT t q => XS.ifNo X.here F.1 rfl (hb F.2.1 hd) rfl ((if0 _ _).trans (tlt u).2.1) q) (k1 u)
  · exact K.lift (fun p e s m args below meth c F T locs X eT t q => XS.ifYes X.here F.1 rfl rfl (hb F.2.1 hd) rfl ((if0 _ _).trans (flt u).2.1) h0 h1 q) (k2 u)
theorem Kx.ic_gt (K : Kx E y bytes ml rt l Z R n0 Q) {o : Int} {x y' : Int32} (hd : Db bytes pc (.if_icmp .gt o) o pc1 pc2) (k1 : y' < x → Wk E h kc kn pc2 ls st) (k2 : ¬ y' < x → Wk E h kc kn pc1 ls st) : Wk E h kc kn pc ls (.int y' :: .int x :: st) := by
  obtain ⟨hd, rfl, h0, h1⟩ := hd
  by_cases u : y' < x
  · exact K.lift (fun p e s m args below meth c F T locs X eT t q => XS.icmpYes X.here F.1 rfl rfl (hb F.2.1 hd) rfl (tlt u).2.2.1 h0 h1 q) (k1 u)
  · exact K.lift (fun p e s m args below meth c F T locs X eT t q => XS.icmpNo X.here F.1 rfl (hb F.2.1 hd) rfl (flt u).2.2.1 q) (k2 u)
theorem Kx.if_gt (K : Kx E y bytes ml rt l Z R n0 Q) {o : Int} {x : Int32} (hd : Db bytes pc (.ifCond .gt o) o pc1 pc2) (k1 : 0 < x → Wk E h kc kn pc2 ls st) (k2 : ¬ 0 < x → Wk E h kc kn pc1 ls st) : Wk E h kc kn pc ls (.int x :: st) := by
  obtain ⟨hd, rfl, h0, h1⟩ := hd
  by_cases u : 0 < x
  · exact K.lift (fun p e s m args below meth c F T locs X eT t q => XS.ifYes X.here F.1 rfl rfl (hb F.2.1 hd) rfl ((if0 _ _).trans (tlt u).2.2.1) h0 h1 q) (k1 u)
  · exact K.lift (fun p e s m args below meth c F T locs X eT t q => XS.ifNo X.here F.1 rfl (hb F.2.1 hd) rfl ((if0 _ _).trans (flt u).2.2.1) q) (k2 u)
theorem Kx.ic_le (K : Kx E y bytes ml rt l Z R n0 Q) {o : Int} {x y' : Int32} (hd : Db bytes pc (.if_icmp .le o) o pc1 pc2) (k1 : y' < x → Wk E h kc kn pc1 ls st) (k2 : ¬ y' < x → Wk E h kc kn pc2 ls st) : Wk E h kc kn pc ls (.int y' :: .int x :: st) := by
  obtain ⟨hd, rfl, h0, h1⟩ := hd
  by_cases u : y' < x
  · exact K.lift (fun p e s m args below meth c F T locs X eT t q => XS.icmpNo X.here F.1 rfl (hb F.2.1 hd) rfl (tlt u).2.2.2 q) (k1 u)
  · exact K.lift (fun p e s m args below meth c F T locs X eT t q => XS.icmpYes X.here F.1 rfl rfl (hb F.2.1 hd) rfl (flt u).2.2.2 h0 h1 q) (k2 u)
theorem Kx.if_le (K : Kx E y bytes ml rt l Z R n0 Q) {o : Int} {x : Int32} (hd : Db bytes pc (.ifCond .le o) o pc1 pc2) (k1 : 0 < x → Wk E h kc kn pc1 ls st) (k2 : ¬ 0 < x → Wk E h kc kn pc2 ls st) : Wk E h kc kn pc ls (.int x :: st) := by
  obtain ⟨hd, rfl, h0, h1⟩ := hd
  by_cases u : 0 < x
  · exact K.lift (fun p e s m args below meth c F T locs X eT t q => XS.ifNo X.here F.1 rfl (hb F.2.1 hd) rfl ((if0 _ _).trans (tlt u).2.2.2) q) (k1 u)
  · exact K.lift (fun p e s m args below meth c F T locs X eT t q => XS.ifYes X.here F.1 rfl rfl (hb F.2.1 hd) rfl ((if0 _ _).trans (flt u).2.2.2) h0 h1 q) (k2 u)
theorem Kx.lcmp (K : Kx E y bytes ml rt l Z R n0 Q) {x y' : Int64} (hd : Dc bytes pc .lcmp 1 pc') (k : Wk E h kc kn pc' ls (.int (lcmpW x y') :: st)) : Wk E h kc kn pc ls (.long y' :: .long x :: st) := by
  obtain ⟨hd, rfl⟩ := hd
  exact K.lift (fun p e s m args below meth c F T locs X eT t q => XS.lcmp X.here F.1 rfl (hb F.2.1 hd) rfl q) k
theorem Kx.lc_eq (K : Kx E y bytes ml rt l Z R n0 Q) {o : Int} {x y' : Int64} {pcm : Nat} (hd0 : Dc bytes pc .lcmp 1 pcm) (hd : Db bytes pcm (.ifCond .eq o) o pc1 pc2) (k1 : x = y' → Wk E h kc kn pc2 ls st) (k2 : ¬ x = y' → Wk E h kc kn pc1 ls st) : Wk E h kc kn pc ls (.long y' :: .long x :: st) :=
  K.lcmp hd0 (K.if_eq hd (fun u => k1 ((lw_eq x y').mp u)) (fun u => k2 (fun v => u ((lw_eq x y').mpr v))))
theorem Kx.lc_ne (K : Kx E y bytes ml rt l Z R n0 Q) {o : Int} {x y' : Int64} {pcm : Nat} (hd0 : Dc bytes pc .lcmp 1 pcm) (hd : Db bytes pcm (.ifCond .ne o) o pc1 pc2) (k1 : x = y' → Wk E h kc kn pc1 ls st) (k2 : ¬ x = y' → Wk E h kc kn pc2 ls st) : Wk E h kc kn pc ls (.long y' :: .long x :: st) :=
  K.lcmp hd0 (K.if_ne hd (fun u => k1 ((lw_eq x y').mp u)) (fun u => k2 (fun v => u ((lw_eq x y').mpr v))))
theorem Kx.lc_lt (K : Kx E y bytes ml rt l Z R n0 Q) {o : Int} {x y' : Int64} {pcm : Nat} (hd0 : Dc bytes pc .lcmp 1 pcm) (hd : Db bytes pcm (.ifCond .lt o) o pc1 pc2) (k1 : x < y' → Wk E h kc kn pc2 ls st) (k2 : ¬ x < y' → Wk E h kc kn pc1 ls st) : Wk E h kc kn pc ls (.long y' :: .long x :: st) :=
  K.lcmp hd0 (K.if_lt hd (fun u => k1 ((lw_lt x y').mp u)) (fun u => k2 (fun v => u ((lw_lt x y').mpr v))))
theorem Kx.lc_ge (K : Kx E y bytes ml rt l Z R n0 Q) {o : Int} {x y' : Int64} {pcm : Nat} (hd0 : Dc bytes pc .lcmp 1 pcm) (hd : Db bytes pcm (.ifCond .ge o) o pc1 pc2) (k1 : x < y' → Wk E h kc kn pc1 ls st) (k2 : ¬ x < y' → Wk E h kc kn pc2 ls st) : Wk E h kc kn pc ls (.long y' :: .long x :: st) :=
  K.lcmp hd0 (K.if_ge hd (fun u => k1 ((lw_lt x y').mp u)) (fun u => k2 (fun v => u ((lw_lt x y').mpr v))))
theorem Kx.lc_gt (K : Kx E y bytes ml rt l Z R n0 Q) {o : Int} {x y' : Int64} {pcm : Nat} (hd0 : Dc bytes pc .lcmp 1 pcm) (hd : Db bytes pcm (.ifCond .gt o) o pc1 pc2) (k1 : y' < x → Wk E h kc kn pc2 ls st) (k2 : ¬ y' < x → Wk E h kc kn pc1 ls st) : Wk E h kc kn pc ls (.long y' :: .long x :: st) :=
  K.lcmp hd0 (K.if_gt hd (fun u => k1 ((lw_gt x y').mp u)) (fun u => k2 (fun v => u ((lw_gt x y').mpr v))))
theorem Kx.lc_le (K : Kx E y bytes ml rt l Z R n0 Q) {o : Int} {x y' : Int64} {pcm : Nat} (hd0 : Dc bytes pc .lcmp 1 pcm) (hd : Db bytes pcm (.ifCond .le o) o pc1 pc2) (k1 : y' < x → Wk E h kc kn pc1 ls st) (k2 : ¬ y' < x → Wk E h kc kn pc2 ls st) : Wk E h kc kn pc ls (.long y' :: .long x :: st) :=
  K.lcmp hd0 (K.if_le hd (fun u => k1 ((lw_gt x y').mp u)) (fun u => k2 (fun v => u ((lw_gt x y').mpr v))))
theorem Kx.ifnull_null (K : Kx E y bytes ml rt l Z R n0 Q) {o : Int} (hd : Db bytes pc (.ifnull o) o pc1 pc2) (k : Wk E h kc kn pc2 ls st) : Wk E h kc kn pc ls (.null :: st) := by
  obtain ⟨hd, -, h0, h1⟩ := hd
  exact K.lift (fun p e s m args below meth c F T locs X eT t q => XS.ifnullYes X.here F.1 rfl rfl (hb F.2.1 hd) rfl h0 h1 q) k
theorem Kx.ifnull_ref (K : Kx E y bytes ml rt l Z R n0 Q) {o : Int} (hd : Db bytes pc (.ifnull o) o pc1 pc2) (k : Wk E h kc kn pc1 ls st) : Wk E h kc kn pc ls (.ref a :: st) := by
  obtain ⟨hd, rfl, h0, h1⟩ := hd
  exact K.lift (fun p e s m args below meth c F T locs X eT t q => XS.ifnullNo X.here F.1 rfl (hb F.2.1 hd) rfl q) k
theorem Kx.ifnonnull_ref (K : Kx E y bytes ml rt l Z R n0 Q) {o : Int} (hd : Db bytes pc (.ifnonnull o) o pc1 pc2) (k : Wk E h kc kn pc2 ls st) : Wk E h kc kn pc ls (.ref a :: st) := by
  obtain ⟨hd, -, h0, h1⟩ := hd
  exact K.lift (fun p e s m args below meth c F T locs X eT t q => XS.ifnonnullYes X.here F.1 rfl rfl (hb F.2.1 hd) rfl h0 h1 q) k
theorem Kx.ifnonnull_null (K : Kx E y bytes ml rt l Z R n0 Q) {o : Int} (hd : Db bytes pc (.ifnonnull o) o pc1 pc2) (k : Wk E h kc kn pc1 ls st) : Wk E h kc kn pc ls (.null :: st) := by
  obtain ⟨hd, rfl, h0, h1⟩ := hd
  exact K.lift (fun p e s m args below meth c F T locs X eT t q => XS.ifnonnullNo X.here F.1 rfl (hb F.2.1 hd) rfl q) k
theorem Kx.ldcF (K : Kx E y bytes ml rt l Z R n0 Q) {i : Nat} {v : UInt32} (hd : Dc bytes pc (.ldc i) 2 pc') (w : (Jvm.Cond.constantFloat y.cls i v).before a0 Z = true) (k : Wk E h kc kn pc' ls (.float v :: st)) : Wk E h kc kn pc ls st := by
  obtain ⟨hd, rfl⟩ := hd
  exact K.lift (fun p e s m args below meth c F T locs X eT t q => X.ldcFloatC F.1 F.2.2.2.2.2.2.1 (mvT F.2.2.2.2.2.1 w) (g := mkF m pc ls st) rfl (hb F.2.1 hd) t q) k
/-- an array: its kind, its length, what each place holds -/
def Ia (Z : State) (h : Heap) (a : Addr) (ty : FieldType) (N : Int32) (f : Int32 → Value) : Prop := ∃ c : Cell, Arr Z h a c ty ∧ c.slots.size = N.toNatClampNeg ∧ ¬ N < 0 ∧ ∀ j : Int32, ¬ j < 0 → j < N → c.slots[j.toNatClampNeg]? = some (f j)
theorem Ia.lt {ty : FieldType} {N : Int32} {f : Int32 → Value} (F : Ia Z h a ty N f) : a < h.size := by obtain ⟨c, A, -⟩ := F; exact A.lt
theorem Ia.nn {ty : FieldType} {N : Int32} {f : Int32 → Value} (F : Ia Z h a ty N f) : ¬ N < 0 := by obtain ⟨c, -, -, q, -⟩ := F; exact q
theorem Ia.ext {ty : FieldType} {N : Int32} {f : Int32 → Value} (F : Ia Z h a ty N f) (X : Ext h h') : Ia Z h' a ty N f := by obtain ⟨c, A, r⟩ := F; exact ⟨c, A.ext X, r⟩
theorem Ia.other {ty : FieldType} {N : Int32} {f : Int32 → Value} {sl : Nat} {v : Value} (F : Ia Z h b ty N f) (W : Wr h h' a sl v) (q : b ≠ a) : Ia Z h' b ty N f := by obtain ⟨c, A, r⟩ := F; exact ⟨c, A.other W q, r⟩
theorem Ia.keep {ty : FieldType} {N : Int32} {f : Int32 → Value} {ws : List Addr} (F : Ia Z h a ty N f) (K : Keep h h' ws) (q : a ∉ ws) : Ia Z h' a ty N f := by obtain ⟨c, A, r⟩ := F; exact ⟨c, ⟨K.2.1 a c A.1 q, A.2⟩, r⟩
theorem Ia.congr {ty : FieldType} {N : Int32} {f g : Int32 → Value} (F : Ia Z h a ty N f) (q : ∀ j : Int32, ¬ j < 0 → j < N → f j = g j) : Ia Z h a ty N g := by
  obtain ⟨c, A, r1, r2, r3⟩ := F
  exact ⟨c, A, r1, r2, fun j h1 h2 => by rw [r3 j h1 h2, q j h1 h2]⟩
theorem Ia.set {ty : FieldType} {N j : Int32} {f : Int32 → Value} {v : Value} (F : Ia Z h a ty N f) (W : Wr h h' a j.toNatClampNeg v) (hj : ¬ j < 0) : Ia Z h' a ty N (fun k => if k = j then v else f k) := by
  obtain ⟨c, A, S, M, G⟩ := F
  refine ⟨_, A.same W, by rw [sz_set]; exact S, M, fun k h1 h2 => ?_⟩
  show _ = some (if k = j then v else f k)
  by_cases u : k = j
  · rw [if_pos u]; exact get_hit (inb_of S (u ▸ ⟨h1, h2⟩)) u
  · rw [if_neg u, get_miss hj h1 u]; exact G k h1 h2
theorem Ia.new {ty : FieldType} {N : Int32} {k : ClassId} (A : Arr Z h a (newA k ty N) ty) (q : ¬ N < 0) : Ia Z h a ty N (fun _ => defaultValue ty) :=
  ⟨_, A, sz_new _ _ _, q, fun j h1 h2 => get_new (by have := inb_of (sz_new k ty N) ⟨h1, h2⟩; rw [sz_new] at this; exact this)⟩
theorem Kx.getF (K : Kx E y bytes ml rt l Z R n0 Q) {i : Nat} {O n d : String} {v : Value} (hd : Dc bytes pc (.getfield i) 3 pc') (w : (Jvm.Cond.fieldLink y.cls i O n d).before a0 Z = true) (F : Fld Z h a O n d v) (k : Wk E h kc kn pc' ls (v :: st)) : Wk E h kc kn pc ls (.ref a :: st) := by
  obtain ⟨hd, rfl⟩ := hd
  refine K.move (fun p e s m args below meth c G T locs X eT N => ?_)
  obtain ⟨g1, g2, g3, g4, g5, hZ, hown, g8, g9⟩ := G
  have hn : n0 ≤ h.size := by rw [← eT]; exact Nat.le_trans g9 X.same.2.1
  obtain ⟨T', X', e', q'⟩ := RoadKit.getF X g1 hZ hown (host := "") (Or.inl w) Via.refl eT F (g := mkF m pc ls (.ref a :: st)) rfl rfl (hb g2 hd)
  exact ⟨T', _, _, _, _, _, _, _, X', e', N, (Nat.le_refl _), k, fun t q => q' t q⟩
theorem Kx.putF (K : Kx E y bytes ml rt l Z R n0 Q) {i kk : Nat} {O n d C : String} {ty : FieldType} {v old : Value} (hd : Dc bytes pc (.putfield i) 3 pc') (w : (Jvm.Cond.fieldLink y.cls i O n d).before a0 Z = true) (F : Fld Z h a O n d old) (X0 : Exa Z h a C)
    (L : (Jvm.Cond.lays C O n d).before a0 Z = true ∨ ((Jvm.Cond.laysFinal C O n d).before a0 Z = true ∧ y.cls = O ∧ y.name = "<init>")) (wi : (Jvm.Cond.instantiable C kk).before a0 Z = true) (ht : parseFieldDescriptor d = some ty) (hna : narrow ty v = v) (hf : fits ty v = true) (ge : n0 ≤ a)
    (k : ∀ h', Wr h h' a (RoadKit.slotOf Z O n d) v → Wk E h' kc kn pc' ls st) : Wk E h kc kn pc ls (v :: .ref a :: st) := by
  obtain ⟨hd, rfl⟩ := hd
  refine K.move (fun p e s m args below meth c G T locs X eT N => ?_)
  obtain ⟨g1, g2, g3, g4, g5, hZ, hown, g8, g9⟩ := G
  have hn : n0 ≤ h.size := by rw [← eT]; exact Nat.le_trans g9 X.same.2.1
  obtain ⟨T', h', X', e', W, q'⟩ := RoadKit.putF X g1 hZ hown (host := "") (Or.inl w) Via.refl eT F X0 (L.imp id fun u => ⟨u.1, u.2.1, g8.trans u.2.2⟩) wi ht hna hf (g := mkF m pc ls (v :: .ref a :: st)) rfl rfl (hb g2 hd)
  exact ⟨T', _, _, _, _, _, _, _, X', e', (Fr.snoc X' N ge), (Nat.le_of_eq W.size.symm), k h' W, fun t q => q' t q⟩
theorem Kx.newO (K : Kx E y bytes ml rt l Z R n0 Q) {i sz : Nat} {C : String} (kc' kn' : Nat) (hd : Dc bytes pc (.new i) 3 pc') (w : (Jvm.Cond.classLink y.cls i C).before a0 Z = true) (wi : (Jvm.Cond.instantiable C sz).before a0 Z = true) (wz : (Jvm.Cond.initialized C).before a0 Z = true)
    (hk : kc + 1 = kc') (hk2 : kn + sz = kn') (hc : kc' ≤ R.cells) (hl : kn' ≤ R.slots)
    (k : ∀ h' a, a = h.size → n0 ≤ a → Ext h h' → Exa Z h' a C → (∀ {O nm d : String} {ty : FieldType}, Laid Z a0 C O nm d → parseFieldDescriptor d = some ty → Fld Z h' a O nm d (defaultValue ty)) → Wk E h' kc' kn' pc' ls (.ref a :: st)) : Wk E h kc kn pc ls st := by
  obtain ⟨hd, rfl⟩ := hd
  refine K.move (fun p e s m args below meth c G T locs X eT N => ?_)
  obtain ⟨g1, g2, g3, g4, g5, hZ, hown, g8, g9⟩ := G
  have hn : n0 ≤ h.size := by rw [← eT]; exact Nat.le_trans g9 X.same.2.1
  subst hk hk2
  obtain ⟨T', h', X', e', E', A', D', -, q'⟩ := RoadKit.newO X g1 hZ hown w wi wz eT (g := mkF m pc ls st) rfl (hb g2 hd) hc hl
  exact ⟨T', _, _, _, _, _, _, _, X', e', N, E'.1, k h' h.size rfl hn E' A' D', fun t q => q' t q⟩
theorem Kx.newP (K : Kx E y bytes ml rt l Z R n0 Q) {aty : ArrayType} {N : Int32} {ty : FieldType} {dv : Value} (cap kc' kn' : Nat) (hd : Dc bytes pc (.newarray aty) 2 pc') (w : (Jvm.Cond.arrayClass ty).before a0 Z = true) (hty : newarray.typeOf aty = ty) (hdv : defaultValue ty = dv) (hN : ¬ N < 0) (hcap : N.toNatClampNeg ≤ cap) (h8 : cap * 8 ≤ 536870912)
    (hk : kc + 1 = kc') (hk2 : kn + cap = kn') (hc : kc' ≤ R.cells) (hl : kn' ≤ R.slots)
    (k : ∀ h' a, a = h.size → n0 ≤ a → Ext h h' → Ia Z h' a ty N (fun _ => dv) → Wk E h' kc' kn' pc' ls (.ref a :: st)) : Wk E h kc kn pc ls (.int N :: st) := by
  obtain ⟨hd, rfl⟩ := hd
  refine K.move (fun p e s m args below meth c G T locs X eT N' => ?_)
  obtain ⟨g1, g2, g3, g4, g5, hZ, hown, g8, g9⟩ := G
  have hn : n0 ≤ h.size := by rw [← eT]; exact Nat.le_trans g9 X.same.2.1
  subst hk hk2 hty hdv
  obtain ⟨T', h', cA, X', e', E', A', q'⟩ := RoadKit.newP X g1 hZ w eT (g := mkF m pc ls (.int N :: st)) rfl (hb g2 hd) rfl hN hcap h8 hc hl
  exact ⟨T', _, _, _, _, _, _, _, X', e', N', E'.1, k h' h.size rfl hn E' (Ia.new A' hN), fun t q => q' t q⟩
theorem Kx.newR (K : Kx E y bytes ml rt l Z R n0 Q) {i : Nat} {N : Int32} {C : String} (cap kc' kn' : Nat) (hd : Dc bytes pc (.anewarray i) 3 pc') (w1 : (Jvm.Cond.classLink y.cls i C).before a0 Z = true) (w2 : (Jvm.Cond.arrayOver (.object C)).before a0 Z = true) (hN : ¬ N < 0) (hcap : N.toNatClampNeg ≤ cap) (h8 : cap * 8 ≤ 536870912)
    (hk : kc + 1 = kc') (hk2 : kn + cap = kn') (hc : kc' ≤ R.cells) (hl : kn' ≤ R.slots)
    (k : ∀ h' a, a = h.size → n0 ≤ a → Ext h h' → Ia Z h' a (.object C) N (fun _ => .null) → Wk E h' kc' kn' pc' ls (.ref a :: st)) : Wk E h kc kn pc ls (.int N :: st) := by
  obtain ⟨hd, rfl⟩ := hd
  refine K.move (fun p e s m args below meth c G T locs X eT N' => ?_)
  obtain ⟨g1, g2, g3, g4, g5, hZ, hown, g8, g9⟩ := G
  have hn : n0 ≤ h.size := by rw [← eT]; exact Nat.le_trans g9 X.same.2.1
  subst hk hk2
  obtain ⟨T', h', cA, X', e', E', A', O', q'⟩ := RoadKit.newR X g1 hZ hown w1 w2 eT (g := mkF m pc ls (.int N :: st)) rfl (hb g2 hd) rfl hN hcap h8 hc hl
  exact ⟨T', _, _, _, _, _, _, _, X', e', N', E'.1, k h' h.size rfl hn E' (Ia.new A' hN), fun t q => q' t q⟩
theorem Kx.newRA (K : Kx E y bytes ml rt l Z R n0 Q) {i : Nat} {N : Int32} {C : String} {ty : FieldType} (cap kc' kn' : Nat) (hd : Dc bytes pc (.anewarray i) 3 pc') (hC : (FieldType.array ty).toString = C) (w1 : (Jvm.Cond.classLink y.cls i C).before a0 Z = true) (w2 : (Jvm.Cond.arrayOver (.array ty)).before a0 Z = true) (hN : ¬ N < 0) (hcap : N.toNatClampNeg ≤ cap) (h8 : cap * 8 ≤ 536870912)
    (hk : kc + 1 = kc') (hk2 : kn + cap = kn') (hc : kc' ≤ R.cells) (hl : kn' ≤ R.slots)
    (k : ∀ h' a, a = h.size → n0 ≤ a → Ext h h' → Ia Z h' a (.array ty) N (fun _ => .null) → Wk E h' kc' kn' pc' ls (.ref a :: st)) : Wk E h kc kn pc ls (.int N :: st) := by
  obtain ⟨hd, rfl⟩ := hd
  refine K.move (fun p e s m args below meth c G T locs X eT N' => ?_)
  obtain ⟨g1, g2, g3, g4, g5, hZ, hown, g8, g9⟩ := G
  have hn : n0 ≤ h.size := by rw [← eT]; exact Nat.le_trans g9 X.same.2.1
  subst hk hk2
  obtain ⟨T', h', cA, X', e', E', A', -, O', q'⟩ := RoadKit.newRA X g1 hZ hown hC w1 w2 eT (g := mkF m pc ls (.int N :: st)) rfl (hb g2 hd) rfl hN hcap h8 hc hl rfl
  exact ⟨T', _, _, _, _, _, _, _, X', e', N', E'.1, k h' h.size rfl hn E' (Ia.new A' hN), fun t q => q' t q⟩
theorem Kx.arraylength (K : Kx E y bytes ml rt l Z R n0 Q) {ty : FieldType} {N : Int32} {f : Int32 → Value} (hd : Dc bytes pc .arraylength 1 pc') (A : Ia Z h a ty N f) (k : Wk E h kc kn pc' ls (.int N :: st)) : Wk E h kc kn pc ls (.ref a :: st) := by
  obtain ⟨hd, rfl⟩ := hd
  obtain ⟨cl, A, S, M, G⟩ := A
  refine K.lift (fun p e s m args below meth c F T locs X eT t q => ?_) k
  exact X.arraylength F.1 (by rw [eT]; exact A.1) (State.isArrayOf_alike F.2.2.2.2.2.1.alike A.2.1) (g := mkF m pc ls (.ref a :: st)) rfl rfl (hb F.2.1 hd) t (by rw [len_of S M]; exact q)
theorem Kx.iaload (K : Kx E y bytes ml rt l Z R n0 Q) {N j : Int32} {f : Int32 → Value} {v : Value} (hd : Dc bytes pc .iaload 1 pc') (A : Ia Z h a .int N f) (h1 : ¬ j < 0) (h2 : j < N) (hv : f j = v) (k : Wk E h kc kn pc' ls (v :: st)) : Wk E h kc kn pc ls (.int j :: .ref a :: st) := by
  obtain ⟨hd, rfl⟩ := hd
  obtain ⟨cl, A, S, M, G⟩ := A
  refine K.lift (fun p e s m args below meth c F T locs X eT t q => ?_) k
  exact X.iaload F.1 (by rw [eT]; exact A.1) (State.isArrayOf_alike F.2.2.2.2.2.1.alike A.2.1) A.2.2 (inb_of S ⟨h1, h2⟩) (hv ▸ G j h1 h2) (g := mkF m pc ls (.int j :: .ref a :: st)) rfl rfl (hb F.2.1 hd) t q
theorem Kx.baload (K : Kx E y bytes ml rt l Z R n0 Q) {N j : Int32} {f : Int32 → Value} {v : Value} (hd : Dc bytes pc .baload 1 pc') (A : Ia Z h a .byte N f) (h1 : ¬ j < 0) (h2 : j < N) (hv : f j = v) (k : Wk E h kc kn pc' ls (v :: st)) : Wk E h kc kn pc ls (.int j :: .ref a :: st) := by
  obtain ⟨hd, rfl⟩ := hd
  obtain ⟨cl, A, S, M, G⟩ := A
  refine K.lift (fun p e s m args below meth c F T locs X eT t q => ?_) k
  exact X.baloadBytes F.1 (by rw [eT]; exact A.1) (State.isArrayOf_alike F.2.2.2.2.2.1.alike A.2.1) A.2.2 (inb_of S ⟨h1, h2⟩) (hv ▸ G j h1 h2) (g := mkF m pc ls (.int j :: .ref a :: st)) rfl rfl (hb F.2.1 hd) t q
theorem Kx.caload (K : Kx E y bytes ml rt l Z R n0 Q) {N j : Int32} {f : Int32 → Value} {v : Value} (hd : Dc bytes pc .caload 1 pc') (A : Ia Z h a .char N f) (h1 : ¬ j < 0) (h2 : j < N) (hv : f j = v) (k : Wk E h kc kn pc' ls (v :: st)) : Wk E h kc kn pc ls (.int j :: .ref a :: st) := by
  obtain ⟨hd, rfl⟩ := hd
  obtain ⟨cl, A, S, M, G⟩ := A
  refine K.lift (fun p e s m args below meth c F T locs X eT t q => ?_) k
  exact X.caload F.1 (by rw [eT]; exact A.1) (State.isArrayOf_alike F.2.2.2.2.2.1.alike A.2.1) A.2.2 (inb_of S ⟨h1, h2⟩) (hv ▸ G j h1 h2) (g := mkF m pc ls (.int j :: .ref a :: st)) rfl rfl (hb F.2.1 hd) t q
theorem Kx.aaload (K : Kx E y bytes ml rt l Z R n0 Q) {N j : Int32} {f : Int32 → Value} {ty : FieldType} {v : Value} (hd : Dc bytes pc .aaload 1 pc') (A : Ia Z h a ty N f) (hty : ty.isReference = true) (h1 : ¬ j < 0) (h2 : j < N) (hv : f j = v) (k : Wk E h kc kn pc' ls (v :: st)) : Wk E h kc kn pc ls (.int j :: .ref a :: st) := by
  obtain ⟨hd, rfl⟩ := hd
  obtain ⟨cl, A, S, M, G⟩ := A
  refine K.lift (fun p e s m args below meth c F T locs X eT t q => ?_) k
  exact X.aaload F.1 (by rw [eT]; exact A.1) (State.isArrayOf_alike F.2.2.2.2.2.1.alike A.2.1) hty A.2.2 (inb_of S ⟨h1, h2⟩) (hv ▸ G j h1 h2) (g := mkF m pc ls (.int j :: .ref a :: st)) rfl rfl (hb F.2.1 hd) t q
theorem Kx.iastore (K : Kx E y bytes ml rt l Z R n0 Q) {N j x : Int32} {f : Int32 → Value} (hd : Dc bytes pc .iastore 1 pc') (A : Ia Z h a .int N f) (h1 : ¬ j < 0) (h2 : j < N) (ge : n0 ≤ a)
    (k : ∀ h', Wr h h' a j.toNatClampNeg (.int x) → Ia Z h' a .int N (fun k => if k = j then .int x else f k) → Wk E h' kc kn pc' ls st) : Wk E h kc kn pc ls (.int x :: .int j :: .ref a :: st) := by
  obtain ⟨hd, rfl⟩ := hd
  refine K.move (fun p e s m args below meth c G T locs X eT N' => ?_)
  obtain ⟨g1, g2, g3, g4, g5, hZ, hown, g8, g9⟩ := G
  have hn : n0 ≤ h.size := by rw [← eT]; exact Nat.le_trans g9 X.same.2.1
  obtain ⟨cl, Ar, S, M, G⟩ := id A
  obtain ⟨T', h', X', e', W, q'⟩ := RoadKit.stI X g1 hZ eT Ar (inb_of S ⟨h1, h2⟩) (g := mkF m pc ls (.int x :: .int j :: .ref a :: st)) rfl rfl (hb g2 hd)
  exact ⟨T', _, _, _, _, _, _, _, X', e', (Fr.snoc X' N' ge), (Nat.le_of_eq W.size.symm), k h' W (A.set W h1), fun t q => q' t q⟩
theorem Kx.bastore (K : Kx E y bytes ml rt l Z R n0 Q) {N j x : Int32} {f : Int32 → Value} (hd : Dc bytes pc .bastore 1 pc') (A : Ia Z h a .byte N f) (h1 : ¬ j < 0) (h2 : j < N) (ge : n0 ≤ a)
    (k : ∀ h', Wr h h' a j.toNatClampNeg (.int x.toInt8.toInt32) → Ia Z h' a .byte N (fun k => if k = j then .int x.toInt8.toInt32 else f k) → Wk E h' kc kn pc' ls st) : Wk E h kc kn pc ls (.int x :: .int j :: .ref a :: st) := by
  obtain ⟨hd, rfl⟩ := hd
  refine K.move (fun p e s m args below meth c G T locs X eT N' => ?_)
  obtain ⟨g1, g2, g3, g4, g5, hZ, hown, g8, g9⟩ := G
  have hn : n0 ≤ h.size := by rw [← eT]; exact Nat.le_trans g9 X.same.2.1
  obtain ⟨cl, Ar, S, M, G⟩ := id A
  obtain ⟨T', h', X', e', W, q'⟩ := RoadKit.stB X g1 hZ eT Ar (inb_of S ⟨h1, h2⟩) (g := mkF m pc ls (.int x :: .int j :: .ref a :: st)) rfl rfl (hb g2 hd)
  exact ⟨T', _, _, _, _, _, _, _, X', e', (Fr.snoc X' N' ge), (Nat.le_of_eq W.size.symm), k h' W (A.set W h1), fun t q => q' t q⟩
theorem Kx.castore (K : Kx E y bytes ml rt l Z R n0 Q) {N j x : Int32} {f : Int32 → Value} (hd : Dc bytes pc .castore 1 pc') (A : Ia Z h a .char N f) (h1 : ¬ j < 0) (h2 : j < N) (ge : n0 ≤ a)
    (k : ∀ h', Wr h h' a j.toNatClampNeg (.int x.toUInt32.toUInt16.toUInt32.toInt32) → Ia Z h' a .char N (fun k => if k = j then .int x.toUInt32.toUInt16.toUInt32.toInt32 else f k) → Wk E h' kc kn pc' ls st) : Wk E h kc kn pc ls (.int x :: .int j :: .ref a :: st) := by
  obtain ⟨hd, rfl⟩ := hd
  refine K.move (fun p e s m args below meth c G T locs X eT N' => ?_)
  obtain ⟨g1, g2, g3, g4, g5, hZ, hown, g8, g9⟩ := G
  have hn : n0 ≤ h.size := by rw [← eT]; exact Nat.le_trans g9 X.same.2.1
  obtain ⟨cl, Ar, S, M, G⟩ := id A
  obtain ⟨T', h', X', e', W, q'⟩ := RoadKit.stC X g1 hZ eT Ar (inb_of S ⟨h1, h2⟩) (g := mkF m pc ls (.int x :: .int j :: .ref a :: st)) rfl rfl (hb g2 hd)
  exact ⟨T', _, _, _, _, _, _, _, X', e', (Fr.snoc X' N' ge), (Nat.le_of_eq W.size.symm), k h' W (A.set W h1), fun t q => q' t q⟩
theorem Kx.getS (K : Kx E y bytes ml rt l Z R n0 Q) {i : Nat} {O n d : String} {v : Value} (hd : Dc bytes pc (.getstatic i) 3 pc') (w : (Jvm.Cond.fieldLink y.cls i O n d).before a0 Z = true) (F : Sta Z h O n d v) (k : Wk E h kc kn pc' ls (v :: st)) : Wk E h kc kn pc ls st := by
  obtain ⟨hd, rfl⟩ := hd
  refine K.move (fun p e s m args below meth c G T locs X eT N => ?_)
  obtain ⟨g1, g2, g3, g4, g5, hZ, hown, g8, g9⟩ := G
  have hn : n0 ≤ h.size := by rw [← eT]; exact Nat.le_trans g9 X.same.2.1
  obtain ⟨T', X', e', q'⟩ := RoadKit.getS (host := "") X g1 hZ hown w Via.refl eT F (g := mkF m pc ls st) rfl (hb g2 hd)
  exact ⟨T', _, _, _, _, _, _, _, X', e', N, (Nat.le_refl _), k, fun t q => q' t q⟩
theorem Kx.castY (K : Kx E y bytes ml rt l Z R n0 Q) {i : Nat} {C : String} (hd : Dc bytes pc (.checkcast i) 3 pc') (w : (Jvm.Cond.classLink y.cls i C).before a0 Z = true) (F : Ins Z h a C true) (k : Wk E h kc kn pc' ls (.ref a :: st)) : Wk E h kc kn pc ls (.ref a :: st) := by
  obtain ⟨hd, rfl⟩ := hd
  refine K.move (fun p e s m args below meth c G T locs X eT N => ?_)
  obtain ⟨g1, g2, g3, g4, g5, hZ, hown, g8, g9⟩ := G
  obtain ⟨T', X', e', q'⟩ := RoadKit.castY X g1 hZ hown w eT F (g := mkF m pc ls (.ref a :: st)) rfl rfl (hb g2 hd)
  exact ⟨T', _, _, _, _, _, _, _, X', e', N, (Nat.le_refl _), k, fun t q => q' t q⟩
theorem Kx.instY (K : Kx E y bytes ml rt l Z R n0 Q) {i : Nat} {C : String} (hd : Dc bytes pc (.instanceof i) 3 pc') (w : (Jvm.Cond.classLink y.cls i C).before a0 Z = true) (F : Ins Z h a C true) (k : Wk E h kc kn pc' ls (.int 1 :: st)) : Wk E h kc kn pc ls (.ref a :: st) := by
  obtain ⟨hd, rfl⟩ := hd
  refine K.move (fun p e s m args below meth c G T locs X eT N => ?_)
  obtain ⟨g1, g2, g3, g4, g5, hZ, hown, g8, g9⟩ := G
  obtain ⟨T', X', e', q'⟩ := RoadKit.instY X g1 hZ hown w eT F (g := mkF m pc ls (.ref a :: st)) rfl rfl (hb g2 hd)
  exact ⟨T', _, _, _, _, _, _, _, X', e', N, (Nat.le_refl _), k, fun t q => q' t q⟩
theorem Kx.instNo (K : Kx E y bytes ml rt l Z R n0 Q) {i : Nat} {C D : String} (hd : Dc bytes pc (.instanceof i) 3 pc') (w : (Jvm.Cond.classLink y.cls i C).before a0 Z = true) (X0 : Exa Z h a D) (F : ∃ c t, Z.vm.findClass D = some c ∧ Z.vm.findClass C = some t ∧ Z.vm.assignable c t = false) (k : Wk E h kc kn pc' ls (.int 0 :: st)) : Wk E h kc kn pc ls (.ref a :: st) := by
  obtain ⟨hd, rfl⟩ := hd
  refine K.move (fun p e s m args below meth c G T locs X eT N => ?_)
  obtain ⟨g1, g2, g3, g4, g5, hZ, hown, g8, g9⟩ := G
  obtain ⟨T', X', e', q'⟩ := RoadKit.instNo X g1 hZ hown w eT X0 F (g := mkF m pc ls (.ref a :: st)) rfl rfl (hb g2 hd)
  exact ⟨T', _, _, _, _, _, _, _, X', e', N, (Nat.le_refl _), k, fun t q => q' t q⟩
theorem Kx.instNull (K : Kx E y bytes ml rt l Z R n0 Q) {i : Nat} (hd : Dc bytes pc (.instanceof i) 3 pc') (k : Wk E h kc kn pc' ls (.int 0 :: st)) : Wk E h kc kn pc ls (.null :: st) := by
  obtain ⟨hd, rfl⟩ := hd
  exact K.lift (fun p e s m args below meth c F T locs X eT t q => X.instanceofNull F.1 (g := mkF m pc ls (.null :: st)) rfl rfl (hb F.2.1 hd) t q) k
def Pl (h : Heap) (x : Addr) : Prop := ∃ c : Cell, h[x]? = some c ∧ c.vm.isStatics = false
theorem plE {C : String} (F : Exa Z h a C) : Pl h a := by obtain ⟨c, _, h1, -, -, h4, -⟩ := F; exact ⟨c, h1, h4⟩
theorem plA {ty : FieldType} {N : Int32} {f : Int32 → Value} (F : Ia Z h a ty N f) : Pl h a := by obtain ⟨c, A, -⟩ := F; exact ⟨c, A.1, A.plain⟩
theorem staK {C n d : String} {v : Value} {ws : List Addr} (F : Sta Z h C n d v) (K : Keep h h' ws) (q : ∀ x ∈ ws, Pl h x) : Sta Z h' C n d v := by
  obtain ⟨cf, i, k, f, sa, cell, h1, h2, h3, h4, h5, h6, h7⟩ := F
  refine ⟨cf, i, k, f, sa, cell, h1, h2, h3, h4, K.2.1 sa cell h5 (fun u => ?_), h6, h7⟩
  obtain ⟨c, e1, e2⟩ := q sa u
  cases h5.symm.trans e1
  rw [e2] at h6; cases h6
theorem Kx.ac_eq (K : Kx E y bytes ml rt l Z R n0 Q) {o : Int} (hd : Db bytes pc (.if_acmp .eq o) o pc1 pc2) (k1 : a = b → Wk E h kc kn pc2 ls st) (k2 : ¬ a = b → Wk E h kc kn pc1 ls st) : Wk E h kc kn pc ls (.ref b :: .ref a :: st) := by
  obtain ⟨hd, rfl, h0, h1⟩ := hd
  by_cases u : a = b
  · exact K.lift (fun p e s m args below meth c F T locs X eT t q => RoadKit.acmp (g := mkF m pc ls (.ref b :: .ref a :: st)) X F.1 rfl (x := .ref a) (y := .ref b) rfl rfl (same := true) rfl (hb F.2.1 hd) rfl (by simp [u]) h0 (by simp [acV, h1]) q) (k1 u)
  · exact K.lift (fun p e s m args below meth c F T locs X eT t q => RoadKit.acmp (g := mkF m pc ls (.ref b :: .ref a :: st)) X F.1 rfl (x := .ref a) (y := .ref b) rfl rfl (same := false) rfl (hb F.2.1 hd) rfl (by simp [u]) h0 (by simp [acV]) q) (k2 u)
theorem Kx.ac_ne (K : Kx E y bytes ml rt l Z R n0 Q) {o : Int} (hd : Db bytes pc (.if_acmp .ne o) o pc1 pc2) (k1 : a = b → Wk E h kc kn pc1 ls st) (k2 : ¬ a = b → Wk E h kc kn pc2 ls st) : Wk E h kc kn pc ls (.ref b :: .ref a :: st) := by
  obtain ⟨hd, rfl, h0, h1⟩ := hd
  by_cases u : a = b
  · exact K.lift (fun p e s m args below meth c F T locs X eT t q => RoadKit.acmp (g := mkF m pc ls (.ref b :: .ref a :: st)) X F.1 rfl (x := .ref a) (y := .ref b) rfl rfl (same := true) rfl (hb F.2.1 hd) rfl (by simp [u]) h0 (by simp [acV]) q) (k1 u)
  · exact K.lift (fun p e s m args below meth c F T locs X eT t q => RoadKit.acmp (g := mkF m pc ls (.ref b :: .ref a :: st)) X F.1 rfl (x := .ref a) (y := .ref b) rfl rfl (same := false) rfl (hb F.2.1 hd) rfl (by simp [u]) h0 (by simp [acV, h1]) q) (k2 u)
theorem Kx.initO (K : Kx E y bytes ml rt l Z R n0 Q) {i : Nat} (W : Nat) (hd : Dc bytes pc (.invokespecial i) 3 pc') (w1 : (Jvm.Cond.methodLink y.cls i Lib.objectInit).before a0 Z = true) (w2 : (Jvm.Cond.instanceMethod Lib.objectInit).before a0 Z = true) (w3 : (Jvm.Cond.code Lib.objectInit ⟨#[0xb1]⟩ 1 none).before a0 Z = true)
    (hsz : ls.size = ml) (hf : 1 ≤ R.frames) (hW : (st.map fun v => v.category).sum ≤ W) (hlo : W + 12 ≤ R.locals) (k : Wk E h kc kn pc' ls st) : Wk E h kc kn pc ls (.ref a :: st) := by
  obtain ⟨hd, rfl⟩ := hd
  refine K.move (fun p e s m args below meth c G T locs X eT N => ?_)
  obtain ⟨g1, g2, g3, g4, g5, hZ, hown, g8, g9⟩ := G
  have hn : n0 ≤ h.size := by rw [← eT]; exact Nat.le_trans g9 X.same.2.1
  obtain ⟨T', X', e', q'⟩ := RoadKit.initO X g1 hZ hown w1 w2 w3 eT (g := mkF m pc ls (.ref a :: st)) rfl (by rw [g3]; exact hsz) rfl (hb g2 hd) hf (W := W) (by show 2 * 0 + _ ≤ _; omega) hlo
  exact ⟨T', _, _, _, _, _, _, _, X', e', N, (Nat.le_refl _), k, fun t q => q' t q⟩
theorem Kx.callS (K : Kx E y bytes ml rt l Z R n0 Q) {i : Nat} {y' : MethodName} {bytes' : ByteArray} {ml' : Nat} {rt' : Option FieldType} {rm : Room} {Q' : Option Value → Heap → Prop} (as rest : List Value) (W kc' kn' : Nat) (hd : Dc bytes pc (.invokestatic i) 3 pc')
    (wl : (Jvm.Cond.methodLink y.cls i y').before a0 Z = true) (ws : (Jvm.Cond.static y').before a0 Z = true) (wz : (Jvm.Cond.initialized y'.cls).before a0 Z = true) (wc : (Jvm.Cond.code y' bytes' ml' rt').before a0 Z = true) (hy : y'.cls ≠ "java/lang/invoke/MethodHandle" ∧ y'.cls ≠ "java/lang/invoke/VarHandle")
    (con : Con l Z y' bytes' ml' rt' rm as.toArray h n0 Q') (hst : st = as.reverse ++ rest) (hlen : ∀ sig, parseMethodDescriptor y'.desc = some sig → as.length = sig.parameters.length) (hsz : ls.size = ml) (hW : (rest.map fun v => v.category).sum ≤ W)
    (hf : rm.frames + 1 ≤ R.frames) (hlo : W + (ml' + 11) + rm.locals ≤ R.locals) (hk : kc + rm.cells = kc') (hk2 : kn + rm.slots = kn') (hc : kc' ≤ R.cells) (hl : kn' ≤ R.slots)
    (k : ∀ v h', Q' v h' → Wk E h' kc' kn' pc' ls (v.toList ++ rest)) : Wk E h kc kn pc ls st := by
  obtain ⟨hd, rfl⟩ := hd
  obtain ⟨p, e, s, m, args, below, meth, c, rfl, g1, g2, g3, g4, g5, hZ, hown, g8, g9⟩ := K
  intro T locs X eT N
  have hn : n0 ≤ h.size := by rw [← eT]; exact Nat.le_trans g9 X.same.2.1
  subst hst hk hk2
  obtain ⟨v, vm₁, ⟨T', L', k', n'⟩, -, X', ⟨L, ⟨hQ, hFr⟩, e1, e2, e3⟩, q'⟩ := Jvm.LawKit.callS X g1 (y := y') hown (mvT hZ wl) (mvT hZ ws) (mvT hZ wz) (mvT hZ wc) hy (backOf (W := W) (Q := fun v h L => Q' v h ∧ Fr n0 L) (con hn []) hZ wc wz hf hlo) (g := mkF m pc ls (as.reverse ++ rest)) rfl (by rw [g3]; exact hsz) (argsL := as) (rest := rest) hlen rfl (by show 2 * 0 + _ ≤ _; omega) (hb g2 hd) (fun _ _ => ⟨rfl, eT, hc, hl⟩)
  dsimp only [Pt.U, Pt.locs, Pt.cells, Pt.slots] at X' e1 e2 e3 q' hQ
  subst e1 e2 e3
  obtain ⟨s₂, o, q, r⟩ := k v T'.heap hQ T' _ X' rfl (Fr.app N hFr)
  exact ⟨s₂, o, q' _ q, r⟩
theorem Kx.callI (K : Kx E y bytes ml rt l Z R n0 Q) {i : Nat} {y' : MethodName} {bytes' : ByteArray} {ml' : Nat} {rt' : Option FieldType} {rm : Room} {Q' : Option Value → Heap → Prop} (as rest : List Value) (W kc' kn' : Nat) (hd : Dc bytes pc (.invokespecial i) 3 pc') (hy1 : y'.name = "<init>") (hrt : rt' = none)
    (wl : (Jvm.Cond.methodLink y.cls i y').before a0 Z = true) (wn : (Jvm.Cond.instanceMethod y').before a0 Z = true) (wz : (Jvm.Cond.initialized y'.cls).before a0 Z = true) (wc : (Jvm.Cond.code y' bytes' ml' rt').before a0 Z = true) (hy : y'.cls ≠ "java/lang/invoke/MethodHandle" ∧ y'.cls ≠ "java/lang/invoke/VarHandle")
    (con : Con l Z y' bytes' ml' rt' rm (.ref a :: as).toArray h n0 Q') (hst : st = as.reverse ++ .ref a :: rest) (hlen : ∀ sig, parseMethodDescriptor y'.desc = some sig → as.length = sig.parameters.length) (hsz : ls.size = ml) (hW : (rest.map fun v => v.category).sum ≤ W)
    (hf : rm.frames + 1 ≤ R.frames) (hlo : W + (ml' + 11) + rm.locals ≤ R.locals) (hk : kc + rm.cells = kc') (hk2 : kn + rm.slots = kn') (hc : kc' ≤ R.cells) (hl : kn' ≤ R.slots)
    (k : ∀ v h', Q' v h' → Wk E h' kc' kn' pc' ls (v.toList ++ rest)) : Wk E h kc kn pc ls st := by
  obtain ⟨hd, rfl⟩ := hd
  obtain ⟨p, e, s, m, args, below, meth, c, rfl, g1, g2, g3, g4, g5, hZ, hown, g8, g9⟩ := K
  intro T locs X eT N
  have hn : n0 ≤ h.size := by rw [← eT]; exact Nat.le_trans g9 X.same.2.1
  subst hst hk hk2
  subst hrt
  obtain ⟨v, vm₁, ⟨T', L', k', n'⟩, -, X', ⟨L, ⟨hQ, hFr⟩, e1, e2, e3⟩, q'⟩ := X.specialBack g1 (y := y') hy1 hown (mvT hZ wl) (mvT hZ wn) (mvT hZ wc) hy (backOf (W := W) (Q := fun v h L => Q' v h ∧ Fr n0 L) (con hn []) hZ wc wz hf hlo) (g := mkF m pc ls (as.reverse ++ .ref a :: rest)) rfl (by rw [g3]; exact hsz) (Steps.refl _) (a := a) (argsL := as) (rest := rest) hlen rfl (by show 2 * 0 + _ ≤ _; omega) (hb g2 hd) (fun _ _ => ⟨rfl, eT, hc, hl⟩)
  dsimp only [Pt.U, Pt.locs, Pt.cells, Pt.slots] at X' e1 e2 e3 q' hQ
  subst e1 e2 e3
  obtain ⟨s₂, o, q, r⟩ := k v T'.heap hQ T' _ X' rfl (Fr.app N hFr)
  exact ⟨s₂, o, q'.trans q, r⟩
theorem Kx.callV (K : Kx E y bytes ml rt l Z R n0 Q) {i : Nat} {y' : MethodName} {bytes' : ByteArray} {ml' : Nat} {rt' : Option FieldType} {rm : Room} {Q' : Option Value → Heap → Prop} (as rest : List Value) (W kc' kn' : Nat) {C : String} (hd : Dc bytes pc (.invokevirtual i) 3 pc')
    (wl : (Jvm.Cond.methodLink y.cls i y').before a0 Z = true) (wd : (Jvm.Cond.declares y').before a0 Z = true) (wse : (Jvm.Cond.selects C y' y').before a0 Z = true) (wn : (Jvm.Cond.instanceMethod y').before a0 Z = true) (wz : (Jvm.Cond.initialized y'.cls).before a0 Z = true) (wc : (Jvm.Cond.code y' bytes' ml' rt').before a0 Z = true) (hy : y'.cls ≠ "java/lang/invoke/MethodHandle" ∧ y'.cls ≠ "java/lang/invoke/VarHandle")
    (con : Con l Z y' bytes' ml' rt' rm (.ref a :: as).toArray h n0 Q') (X0 : Exa Z h a C) (hst : st = as.reverse ++ .ref a :: rest) (hlen : ∀ sig, parseMethodDescriptor y'.desc = some sig → as.length = sig.parameters.length) (hsz : ls.size = ml) (hW : (rest.map fun v => v.category).sum ≤ W)
    (hf : rm.frames + 1 ≤ R.frames) (hlo : W + (ml' + 11) + rm.locals ≤ R.locals) (hk : kc + rm.cells = kc') (hk2 : kn + rm.slots = kn') (hc : kc' ≤ R.cells) (hl : kn' ≤ R.slots)
    (k : ∀ v h', Q' v h' → Wk E h' kc' kn' pc' ls (v.toList ++ rest)) : Wk E h kc kn pc ls st := by
  obtain ⟨hd, rfl⟩ := hd
  obtain ⟨p, e, s, m, args, below, meth, c, rfl, g1, g2, g3, g4, g5, hZ, hown, g8, g9⟩ := K
  intro T locs X eT N
  have hn : n0 ≤ h.size := by rw [← eT]; exact Nat.le_trans g9 X.same.2.1
  subst hst hk hk2
  obtain ⟨cq, kq, qa, qb, qc⟩ := isOf hZ eT X0
  obtain ⟨v, vm₁, ⟨T', L', k', n'⟩, -, X', ⟨L, ⟨hQ, hFr⟩, e1, e2, e3⟩, q'⟩ := X.virtualBack g1 (y := y') (z := y') hown (mvT hZ wl) (mvT hZ wd) (notFace_of_selects (args := #[]) (mvT hZ wse)) (mvT hZ wse) (mvT hZ wn) hy (backOf (W := W) (Q := fun v h L => Q' v h ∧ Fr n0 L) (con hn []) hZ wc wz hf hlo) qa qc (g := mkF m pc ls (as.reverse ++ .ref a :: rest)) rfl (by rw [g3]; exact hsz) (Steps.refl _) (argsL := as) (rest := rest) hlen rfl (by show 2 * 0 + _ ≤ _; omega) (hb g2 hd) (fun _ _ => ⟨rfl, eT, hc, hl⟩)
  dsimp only [Pt.U, Pt.locs, Pt.cells, Pt.slots] at X' e1 e2 e3 q' hQ
  subst e1 e2 e3
  obtain ⟨s₂, o, q, r⟩ := k v T'.heap hQ T' _ X' rfl (Fr.app N hFr)
  exact ⟨s₂, o, q'.trans q, r⟩
theorem Kx.callP (K : Kx E y bytes ml rt l Z R n0 Q) {i : Nat} {y' : MethodName} {bytes' : ByteArray} {ml' : Nat} {rt' : Option FieldType} {rm : Room} {Q' : Option Value → Heap → Prop} (as rest : List Value) (W kc' kn' : Nat) {C : String} (hd : Dc bytes pc (.invokevirtual i) 3 pc')
    (wl : (Jvm.Cond.methodLink y.cls i y').before a0 Z = true) (wp : (Jvm.Cond.privateMethod y').before a0 Z = true) (wse : (Jvm.Cond.selects y'.cls y' y').before a0 Z = true) (wn : (Jvm.Cond.instanceMethod y').before a0 Z = true) (wz : (Jvm.Cond.initialized y'.cls).before a0 Z = true) (wc : (Jvm.Cond.code y' bytes' ml' rt').before a0 Z = true) (hy : y'.cls ≠ "java/lang/invoke/MethodHandle" ∧ y'.cls ≠ "java/lang/invoke/VarHandle")
    (con : Con l Z y' bytes' ml' rt' rm (.ref a :: as).toArray h n0 Q') (X0 : Exa Z h a C) (hst : st = as.reverse ++ .ref a :: rest) (hlen : ∀ sig, parseMethodDescriptor y'.desc = some sig → as.length = sig.parameters.length) (hsz : ls.size = ml) (hW : (rest.map fun v => v.category).sum ≤ W)
    (hf : rm.frames + 1 ≤ R.frames) (hlo : W + (ml' + 11) + rm.locals ≤ R.locals) (hk : kc + rm.cells = kc') (hk2 : kn + rm.slots = kn') (hc : kc' ≤ R.cells) (hl : kn' ≤ R.slots)
    (k : ∀ v h', Q' v h' → Wk E h' kc' kn' pc' ls (v.toList ++ rest)) : Wk E h kc kn pc ls st := by
  obtain ⟨hd, rfl⟩ := hd
  obtain ⟨p, e, s, m, args, below, meth, c, rfl, g1, g2, g3, g4, g5, hZ, hown, g8, g9⟩ := K
  intro T locs X eT N
  have hn : n0 ≤ h.size := by rw [← eT]; exact Nat.le_trans g9 X.same.2.1
  subst hst hk hk2
  obtain ⟨cq, qa, qb⟩ := X0.cell
  obtain ⟨v, vm₁, ⟨T', L', k', n'⟩, -, X', ⟨L, ⟨hQ, hFr⟩, e1, e2, e3⟩, q'⟩ := X.privateBack g1 (y := y') hown (mvT hZ wl) (mvT hZ wn) (mvT hZ wse) (Cond.privateMethod_at (mvP hZ wp (args := #[]))) (mvT hZ wc) hy (backOf (W := W) (Q := fun v h L => Q' v h ∧ Fr n0 L) (con hn []) hZ wc wz hf hlo) (g := mkF m pc ls (as.reverse ++ .ref a :: rest)) rfl (by rw [g3]; exact hsz) (Steps.refl _) (a := a) (by rw [eT]; exact qa) qb (argsL := as) (rest := rest) hlen rfl (by show 2 * 0 + _ ≤ _; omega) (hb g2 hd) (fun _ _ => ⟨rfl, eT, hc, hl⟩)
  dsimp only [Pt.U, Pt.locs, Pt.cells, Pt.slots] at X' e1 e2 e3 q' hQ
  subst e1 e2 e3
  obtain ⟨s₂, o, q, r⟩ := k v T'.heap hQ T' _ X' rfl (Fr.app N hFr)
  exact ⟨s₂, o, q'.trans q, r⟩
/-- how a call goes on: it hands back one value and leaves the heap; a value; nothing; a reference -/
theorem goP {val : Value} {rest : List Value} (k : Wk E h kc kn pc ls (val :: rest)) : ∀ v h', (v = some val ∧ h' = h) → Wk E h' kc kn pc ls (v.toList ++ rest) := fun v h' q => by obtain ⟨rfl, rfl⟩ := q; exact k
theorem goV {val : Value} {rest : List Value} {Qh : Heap → Prop} (k : ∀ h', Qh h' → Wk E h' kc kn pc ls (val :: rest)) : ∀ v h', (v = some val ∧ Qh h') → Wk E h' kc kn pc ls (v.toList ++ rest) := fun v h' q => by obtain ⟨rfl, q⟩ := q; exact k h' q
theorem goN {rest : List Value} (k : Wk E h kc kn pc ls rest) : ∀ v h', (v = (none : Option Value) ∧ h' = h) → Wk E h' kc kn pc ls (v.toList ++ rest) := fun v h' q => by obtain ⟨rfl, rfl⟩ := q; exact k
theorem goU {rest : List Value} {Qh : Heap → Prop} (k : ∀ h', Qh h' → Wk E h' kc kn pc ls rest) : ∀ v h', (v = (none : Option Value) ∧ Qh h') → Wk E h' kc kn pc ls (v.toList ++ rest) := fun v h' q => by obtain ⟨rfl, q⟩ := q; exact k h' q
theorem goR {rest : List Value} {Qr : Addr → Heap → Prop} (k : ∀ a h', Qr a h' → Wk E h' kc kn pc ls (.ref a :: rest)) : ∀ v h', (∃ a, v = some (.ref a) ∧ Qr a h') → Wk E h' kc kn pc ls (v.toList ++ rest) := fun v h' q => by obtain ⟨a, rfl, q⟩ := q; exact k a h' q
theorem goI {rest : List Value} {Qr : Int32 → Heap → Prop} (k : ∀ a h', Qr a h' → Wk E h' kc kn pc ls (.int a :: rest)) : ∀ v h', (∃ a, v = some (.int a) ∧ Qr a h') → Wk E h' kc kn pc ls (v.toList ++ rest) := fun v h' q => by obtain ⟨a, rfl, q⟩ := q; exact k a h' q
theorem Kx.ret (K : Kx E y bytes ml none l Z R n0 Q) (hd : Dc bytes pc .return_ 1 pc') (hc : kc ≤ R.cells) (hl : kn ≤ R.slots) (hQ : Q none h) : Wk E h kc kn pc ls [] := by
  obtain ⟨p, e, s, m, args, below, meth, c, rfl, g1, g2, g3, g4, g5, hZ, hown, g8, g9⟩ := K
  intro T locs X eT N
  obtain ⟨fs, hr, hrun, hended, hW, hsame⟩ := X.leave (v := none) (fun _ => rfl) g5
  exact ⟨_, _, X.returnOut g1 g4 (hb g2 hd.1) hr, hrun, hended, _, _, rfl, ⟨(by show Q none T.heap; rw [eT]; exact hQ), N⟩, ⟨_, rfl⟩, hW, hsame.mono hc hl⟩
theorem Kx.retW {t : FieldType} {w : Value} {i : Instr} (K : Kx E y bytes ml (some t) l Z R n0 Q) (hd : Dc bytes pc i 1 pc') (hna : narrow t w = w) (hi : (i = .ireturn ∧ (t = .int ∨ t = .boolean ∨ t = .byte ∨ t = .char ∨ t = .short) ∧ ∃ z, w = .int z) ∨ (i = .lreturn ∧ t = .long ∧ ∃ z, w = .long z) ∨ (i = .dreturn ∧ t = .double ∧ ∃ z, w = .double z) ∨ (i = .freturn ∧ t = .float ∧ ∃ z, w = .float z) ∨ (i = .areturn ∧ t.isReference = true ∧ w.isRef = true)) (hc : kc ≤ R.cells) (hl : kn ≤ R.slots) (hQ : Q (some w) h) : Wk E h kc kn pc ls (w :: st) := by
  obtain ⟨p, e, s, m, args, below, meth, c, rfl, g1, g2, g3, g4, g5, hZ, hown, g8, g9⟩ := K
  intro T locs X eT N
  obtain ⟨fs, hr, hrun, hended, hW, hsame⟩ := X.leave (v := some w) (fun h => by rw [g4] at h; cases h) g5
  exact ⟨_, _, retOut X g1 g4 hna hi (hb g2 hd.1) hr, hrun, hended, _, _, rfl, ⟨(by show Q (some w) T.heap; rw [eT]; exact hQ), N⟩, ⟨_, rfl⟩, hW, hsame.mono hc hl⟩
theorem Kx.ireturn {t : FieldType} {z : Int32} (K : Kx E y bytes ml (some t) l Z R n0 Q) (hd : Dc bytes pc .ireturn 1 pc') (ht : t = .int ∨ t = .boolean ∨ t = .byte ∨ t = .char ∨ t = .short) (hna : narrow t (.int z) = .int z) (hc : kc ≤ R.cells) (hl : kn ≤ R.slots) (hQ : Q (some (.int z)) h) : Wk E h kc kn pc ls (.int z :: st) :=
  K.retW hd hna (Or.inl ⟨rfl, ht, z, rfl⟩) hc hl hQ
theorem Kx.lreturn {z : Int64} (K : Kx E y bytes ml (some .long) l Z R n0 Q) (hd : Dc bytes pc .lreturn 1 pc') (hc : kc ≤ R.cells) (hl : kn ≤ R.slots) (hQ : Q (some (.long z)) h) : Wk E h kc kn pc ls (.long z :: st) :=
  K.retW hd rfl (Or.inr (Or.inl ⟨rfl, rfl, z, rfl⟩)) hc hl hQ
theorem Kx.areturn {t : FieldType} {w : Value} (K : Kx E y bytes ml (some t) l Z R n0 Q) (hd : Dc bytes pc .areturn 1 pc') (ht : t.isReference = true) (hw : w.isRef = true) (hna : narrow t w = w) (hc : kc ≤ R.cells) (hl : kn ≤ R.slots) (hQ : Q (some w) h) : Wk E h kc kn pc ls (w :: st) :=
  K.retW hd hna (Or.inr (Or.inr (Or.inr (Or.inr ⟨rfl, ht, hw⟩)))) hc hl hQ
theorem narB {P : Prop} [Decidable P] : narrow .boolean (.int (if P then 1 else 0)) = .int (if P then 1 else 0) := by split <;> rfl
theorem narB' {P : Prop} [Decidable P] : narrow .boolean (.int (if P then 0 else 1)) = .int (if P then 0 else 1) := by split <;> rfl
end Own
end Jvm.Pilot.@@N@@
namespace Jvm.Pilot.@@N@@
open Jvm Jvm.ClassFile Sem Op Lib Jvm.Free Jvm.Stand Jvm.LawKit Jvm.RoadKit Bundle Jvm.Pilot.@@N@@.Jvm.D
theorem dP_0 : Dc method_2_code 0 (.iload_n 0) 1 1 := ⟨by decide +kernel, rfl⟩
theorem dP_1 : Db method_2_code 1 (.ifCond .ne 7) 7 4 8 := ⟨by decide +kernel, rfl, by decide, by decide⟩
theorem dP_4 : Dc method_2_code 4 (.getstatic 7) 3 7 := ⟨by decide +kernel, rfl⟩
set_option maxRecDepth 65536 in
theorem wd5 {Z : State} {a0 : Array Value} (hw : ∀ d ∈ tables_1, d.before a0 Z = true) : (Jvm.Cond.fieldLink "com/example/briareus/briareus/AttributeTypeIsKeyTypePinLaw" (7 : Nat) "com/example/briareus/briareus/AttributeType" "S" "Lcom/example/briareus/briareus/AttributeType;").before a0 Z = true := hw _ (List.mem_of_getElem? (i := 5) rfl)
theorem dP_7 : Dc method_2_code 7 .areturn 1 8 := ⟨by decide +kernel, rfl⟩
theorem dP_8 : Dc method_2_code 8 (.iload_n 0) 1 9 := ⟨by decide +kernel, rfl⟩
theorem dP_9 : Dc method_2_code 9 (.iconst 1) 1 10 := ⟨by decide +kernel, rfl⟩
theorem dP_10 : Db method_2_code 10 (.if_icmp .ne 7) 7 13 17 := ⟨by decide +kernel, rfl, by decide, by decide⟩
theorem dP_13 : Dc method_2_code 13 (.getstatic 13) 3 16 := ⟨by decide +kernel, rfl⟩
set_option maxRecDepth 65536 in
theorem wd20 {Z : State} {a0 : Array Value} (hw : ∀ d ∈ tables_1, d.before a0 Z = true) : (Jvm.Cond.fieldLink "com/example/briareus/briareus/AttributeTypeIsKeyTypePinLaw" (13 : Nat) "com/example/briareus/briareus/AttributeType" "N" "Lcom/example/briareus/briareus/AttributeType;").before a0 Z = true := hw _ (List.mem_of_getElem? (i := 20) rfl)
theorem dP_16 : Dc method_2_code 16 .areturn 1 17 := ⟨by decide +kernel, rfl⟩
theorem dP_17 : Dc method_2_code 17 (.iload_n 0) 1 18 := ⟨by decide +kernel, rfl⟩
theorem dP_18 : Dc method_2_code 18 (.iconst 2) 1 19 := ⟨by decide +kernel, rfl⟩
theorem dP_19 : Db method_2_code 19 (.if_icmp .ne 7) 7 22 26 := ⟨by decide +kernel, rfl, by decide, by decide⟩
theorem dP_22 : Dc method_2_code 22 (.getstatic 16) 3 25 := ⟨by decide +kernel, rfl⟩
set_option maxRecDepth 65536 in
theorem wd25 {Z : State} {a0 : Array Value} (hw : ∀ d ∈ tables_1, d.before a0 Z = true) : (Jvm.Cond.fieldLink "com/example/briareus/briareus/AttributeTypeIsKeyTypePinLaw" (16 : Nat) "com/example/briareus/briareus/AttributeType" "B" "Lcom/example/briareus/briareus/AttributeType;").before a0 Z = true := hw _ (List.mem_of_getElem? (i := 25) rfl)
theorem dP_25 : Dc method_2_code 25 .areturn 1 26 := ⟨by decide +kernel, rfl⟩
theorem dP_26 : Dc method_2_code 26 (.iload_n 0) 1 27 := ⟨by decide +kernel, rfl⟩
theorem dP_27 : Dc method_2_code 27 (.iconst 3) 1 28 := ⟨by decide +kernel, rfl⟩
theorem dP_28 : Db method_2_code 28 (.if_icmp .ne 7) 7 31 35 := ⟨by decide +kernel, rfl, by decide, by decide⟩
theorem dP_31 : Dc method_2_code 31 (.getstatic 19) 3 34 := ⟨by decide +kernel, rfl⟩
set_option maxRecDepth 65536 in
theorem wd14 {Z : State} {a0 : Array Value} (hw : ∀ d ∈ tables_1, d.before a0 Z = true) : (Jvm.Cond.fieldLink "com/example/briareus/briareus/AttributeTypeIsKeyTypePinLaw" (19 : Nat) "com/example/briareus/briareus/AttributeType" "BOOL" "Lcom/example/briareus/briareus/AttributeType;").before a0 Z = true := hw _ (List.mem_of_getElem? (i := 14) rfl)
theorem dP_34 : Dc method_2_code 34 .areturn 1 35 := ⟨by decide +kernel, rfl⟩
theorem dP_35 : Dc method_2_code 35 (.iload_n 0) 1 36 := ⟨by decide +kernel, rfl⟩
theorem dP_36 : Dc method_2_code 36 (.iconst 4) 1 37 := ⟨by decide +kernel, rfl⟩
theorem dP_37 : Db method_2_code 37 (.if_icmp .ne 7) 7 40 44 := ⟨by decide +kernel, rfl, by decide, by decide⟩
theorem dP_40 : Dc method_2_code 40 (.getstatic 22) 3 43 := ⟨by decide +kernel, rfl⟩
set_option maxRecDepth 65536 in
theorem wd21 {Z : State} {a0 : Array Value} (hw : ∀ d ∈ tables_1, d.before a0 Z = true) : (Jvm.Cond.fieldLink "com/example/briareus/briareus/AttributeTypeIsKeyTypePinLaw" (22 : Nat) "com/example/briareus/briareus/AttributeType" "NULL" "Lcom/example/briareus/briareus/AttributeType;").before a0 Z = true := hw _ (List.mem_of_getElem? (i := 21) rfl)
theorem dP_43 : Dc method_2_code 43 .areturn 1 44 := ⟨by decide +kernel, rfl⟩
theorem dP_44 : Dc method_2_code 44 (.iload_n 0) 1 45 := ⟨by decide +kernel, rfl⟩
theorem dP_45 : Dc method_2_code 45 (.iconst 5) 1 46 := ⟨by decide +kernel, rfl⟩
theorem dP_46 : Db method_2_code 46 (.if_icmp .ne 7) 7 49 53 := ⟨by decide +kernel, rfl, by decide, by decide⟩
theorem dP_49 : Dc method_2_code 49 (.getstatic 25) 3 52 := ⟨by decide +kernel, rfl⟩
set_option maxRecDepth 65536 in
theorem wd30 {Z : State} {a0 : Array Value} (hw : ∀ d ∈ tables_1, d.before a0 Z = true) : (Jvm.Cond.fieldLink "com/example/briareus/briareus/AttributeTypeIsKeyTypePinLaw" (25 : Nat) "com/example/briareus/briareus/AttributeType" "L" "Lcom/example/briareus/briareus/AttributeType;").before a0 Z = true := hw _ (List.mem_of_getElem? (i := 30) rfl)
theorem dP_52 : Dc method_2_code 52 .areturn 1 53 := ⟨by decide +kernel, rfl⟩
theorem dP_53 : Dc method_2_code 53 (.iload_n 0) 1 54 := ⟨by decide +kernel, rfl⟩
theorem dP_54 : Dc method_2_code 54 (.bipush 6) 2 56 := ⟨by decide +kernel, rfl⟩
theorem dP_56 : Db method_2_code 56 (.if_icmp .ne 7) 7 59 63 := ⟨by decide +kernel, rfl, by decide, by decide⟩
theorem dP_59 : Dc method_2_code 59 (.getstatic 28) 3 62 := ⟨by decide +kernel, rfl⟩
set_option maxRecDepth 65536 in
theorem wd32 {Z : State} {a0 : Array Value} (hw : ∀ d ∈ tables_1, d.before a0 Z = true) : (Jvm.Cond.fieldLink "com/example/briareus/briareus/AttributeTypeIsKeyTypePinLaw" (28 : Nat) "com/example/briareus/briareus/AttributeType" "M" "Lcom/example/briareus/briareus/AttributeType;").before a0 Z = true := hw _ (List.mem_of_getElem? (i := 32) rfl)
theorem dP_62 : Dc method_2_code 62 .areturn 1 63 := ⟨by decide +kernel, rfl⟩
theorem dP_63 : Dc method_2_code 63 (.iload_n 0) 1 64 := ⟨by decide +kernel, rfl⟩
theorem dP_64 : Dc method_2_code 64 (.bipush 7) 2 66 := ⟨by decide +kernel, rfl⟩
theorem dP_66 : Db method_2_code 66 (.if_icmp .ne 7) 7 69 73 := ⟨by decide +kernel, rfl, by decide, by decide⟩
theorem dP_69 : Dc method_2_code 69 (.getstatic 31) 3 72 := ⟨by decide +kernel, rfl⟩
set_option maxRecDepth 65536 in
theorem wd23 {Z : State} {a0 : Array Value} (hw : ∀ d ∈ tables_1, d.before a0 Z = true) : (Jvm.Cond.fieldLink "com/example/briareus/briareus/AttributeTypeIsKeyTypePinLaw" (31 : Nat) "com/example/briareus/briareus/AttributeType" "SS" "Lcom/example/briareus/briareus/AttributeType;").before a0 Z = true := hw _ (List.mem_of_getElem? (i := 23) rfl)
theorem dP_72 : Dc method_2_code 72 .areturn 1 73 := ⟨by decide +kernel, rfl⟩
theorem dP_73 : Dc method_2_code 73 (.iload_n 0) 1 74 := ⟨by decide +kernel, rfl⟩
theorem dP_74 : Dc method_2_code 74 (.bipush 8) 2 76 := ⟨by decide +kernel, rfl⟩
theorem dP_76 : Db method_2_code 76 (.if_icmp .ne 7) 7 79 83 := ⟨by decide +kernel, rfl, by decide, by decide⟩
theorem dP_79 : Dc method_2_code 79 (.getstatic 34) 3 82 := ⟨by decide +kernel, rfl⟩
set_option maxRecDepth 65536 in
theorem wd26 {Z : State} {a0 : Array Value} (hw : ∀ d ∈ tables_1, d.before a0 Z = true) : (Jvm.Cond.fieldLink "com/example/briareus/briareus/AttributeTypeIsKeyTypePinLaw" (34 : Nat) "com/example/briareus/briareus/AttributeType" "NS" "Lcom/example/briareus/briareus/AttributeType;").before a0 Z = true := hw _ (List.mem_of_getElem? (i := 26) rfl)
theorem dP_82 : Dc method_2_code 82 .areturn 1 83 := ⟨by decide +kernel, rfl⟩
theorem dP_83 : Dc method_2_code 83 (.getstatic 37) 3 86 := ⟨by decide +kernel, rfl⟩
set_option maxRecDepth 65536 in
theorem wd28 {Z : State} {a0 : Array Value} (hw : ∀ d ∈ tables_1, d.before a0 Z = true) : (Jvm.Cond.fieldLink "com/example/briareus/briareus/AttributeTypeIsKeyTypePinLaw" (37 : Nat) "com/example/briareus/briareus/AttributeType" "BS" "Lcom/example/briareus/briareus/AttributeType;").before a0 Z = true := hw _ (List.mem_of_getElem? (i := 28) rfl)
theorem dP_86 : Dc method_2_code 86 .areturn 1 87 := ⟨by decide +kernel, rfl⟩
theorem efP (m : MethodId) (x0 : Int32) : entryFrame m #[.int x0] 1 = mkF m 0 #[.val (.int x0)] [] := by first | (simp [entryFrame, mkF, argsToLocals, Value.category]; done) | rfl
theorem pnP : plainFor (⟨"com/example/briareus/briareus/AttributeTypeIsKeyTypePinLaw", "pick", "(I)Lcom/example/briareus/briareus/AttributeType;"⟩ : MethodName) = true := plainFor_of_name (by first | (simp [plainName, overriddenIn]; done) | decide +kernel)
theorem dK_0 : Dc prog_1_method_6_code 0 (.aload_n 0) 1 1 := ⟨by decide +kernel, rfl⟩
theorem dK_1 : Dc prog_1_method_6_code 1 (.getstatic 3) 3 4 := ⟨by decide +kernel, rfl⟩
set_option maxRecDepth 65536 in
theorem wd13 {Z : State} {a0 : Array Value} (hw : ∀ d ∈ tables_1, d.before a0 Z = true) : (Jvm.Cond.fieldLink "com/example/briareus/briareus/AttributeType" (3 : Nat) "com/example/briareus/briareus/AttributeType" "S" "Lcom/example/briareus/briareus/AttributeType;").before a0 Z = true := hw _ (List.mem_of_getElem? (i := 13) rfl)
theorem dK_4 : Db prog_1_method_6_code 4 (.if_acmp .eq 17) 17 7 21 := ⟨by decide +kernel, rfl, by decide, by decide⟩
theorem dK_21 : Dc prog_1_method_6_code 21 (.iconst 1) 1 22 := ⟨by decide +kernel, rfl⟩
theorem dK_22 : Db prog_1_method_6_code 22 (.goto 4) 4 25 26 := ⟨by decide +kernel, rfl, by decide, by decide⟩
theorem dK_26 : Dc prog_1_method_6_code 26 .ireturn 1 27 := ⟨by decide +kernel, rfl⟩
theorem dK_7 : Dc prog_1_method_6_code 7 (.aload_n 0) 1 8 := ⟨by decide +kernel, rfl⟩
theorem dK_8 : Dc prog_1_method_6_code 8 (.getstatic 7) 3 11 := ⟨by decide +kernel, rfl⟩
set_option maxRecDepth 65536 in
theorem wd16 {Z : State} {a0 : Array Value} (hw : ∀ d ∈ tables_1, d.before a0 Z = true) : (Jvm.Cond.fieldLink "com/example/briareus/briareus/AttributeType" (7 : Nat) "com/example/briareus/briareus/AttributeType" "N" "Lcom/example/briareus/briareus/AttributeType;").before a0 Z = true := hw _ (List.mem_of_getElem? (i := 16) rfl)
theorem dK_11 : Db prog_1_method_6_code 11 (.if_acmp .eq 10) 10 14 21 := ⟨by decide +kernel, rfl, by decide, by decide⟩
theorem dK_14 : Dc prog_1_method_6_code 14 (.aload_n 0) 1 15 := ⟨by decide +kernel, rfl⟩
theorem dK_15 : Dc prog_1_method_6_code 15 (.getstatic 10) 3 18 := ⟨by decide +kernel, rfl⟩
set_option maxRecDepth 65536 in
theorem wd18 {Z : State} {a0 : Array Value} (hw : ∀ d ∈ tables_1, d.before a0 Z = true) : (Jvm.Cond.fieldLink "com/example/briareus/briareus/AttributeType" (10 : Nat) "com/example/briareus/briareus/AttributeType" "B" "Lcom/example/briareus/briareus/AttributeType;").before a0 Z = true := hw _ (List.mem_of_getElem? (i := 18) rfl)
theorem dK_18 : Db prog_1_method_6_code 18 (.if_acmp .ne 7) 7 21 25 := ⟨by decide +kernel, rfl, by decide, by decide⟩
theorem dK_25 : Dc prog_1_method_6_code 25 (.iconst 0) 1 26 := ⟨by decide +kernel, rfl⟩
theorem efK (m : MethodId) (x0 : Addr) : entryFrame m #[.ref x0] 1 = mkF m 0 #[.val (.ref x0)] [] := by first | (simp [entryFrame, mkF, argsToLocals, Value.category]; done) | rfl
theorem pnK : plainFor (⟨"com/example/briareus/briareus/AttributeType", "isKeyType", "()Z"⟩ : MethodName) = true := plainFor_of_name (by first | (simp [plainName, overriddenIn]; done) | decide +kernel)
theorem d0_0 : Dc code 0 (.iload_n 0) 1 1 := ⟨by decide +kernel, rfl⟩
theorem d0_1 : Dc code 1 (.ldc 40) 2 3 := ⟨by decide +kernel, rfl⟩
set_option maxRecDepth 65536 in
theorem wd0 {Z : State} {a0 : Array Value} (hw : ∀ d ∈ tables_1, d.before a0 Z = true) : (Jvm.Cond.constant "com/example/briareus/briareus/AttributeTypeIsKeyTypePinLaw" (40 : Nat) (2147483647 : Int32)).before a0 Z = true := hw _ (List.mem_of_getElem? (i := 0) rfl)
theorem d0_3 : Dc code 3 .iand 1 4 := ⟨by decide +kernel, rfl⟩
theorem d0_4 : Dc code 4 (.bipush 10) 2 6 := ⟨by decide +kernel, rfl⟩
theorem d0_6 : Dc code 6 .irem 1 7 := ⟨by decide +kernel, rfl⟩
theorem d0_7 : Dc code 7 (.istore_n 1) 1 8 := ⟨by decide +kernel, rfl⟩
theorem d0_8 : Dc code 8 (.iload_n 1) 1 9 := ⟨by decide +kernel, rfl⟩
theorem d0_9 : Dc code 9 (.invokestatic 41) 3 12 := ⟨by decide +kernel, rfl⟩
set_option maxRecDepth 65536 in
theorem wd3 {Z : State} {a0 : Array Value} (hw : ∀ d ∈ tables_1, d.before a0 Z = true) : (Jvm.Cond.initialized "com/example/briareus/briareus/AttributeTypeIsKeyTypePinLaw").before a0 Z = true := hw _ (List.mem_of_getElem? (i := 3) rfl)
theorem pd_1 : parseMethodDescriptor "(I)Lcom/example/briareus/briareus/AttributeType;" = some ⟨[.int], some (.object "com/example/briareus/briareus/AttributeType")⟩ := by decide +kernel
set_option maxRecDepth 65536 in
theorem wd1 {Z : State} {a0 : Array Value} (hw : ∀ d ∈ tables_1, d.before a0 Z = true) : (Jvm.Cond.methodLink "com/example/briareus/briareus/AttributeTypeIsKeyTypePinLaw" (41 : Nat) ({ cls := "com/example/briareus/briareus/AttributeTypeIsKeyTypePinLaw", name := "pick", desc := "(I)Lcom/example/briareus/briareus/AttributeType;" } : Jvm.MethodName)).before a0 Z = true := hw _ (List.mem_of_getElem? (i := 1) rfl)
set_option maxRecDepth 65536 in
theorem wd2 {Z : State} {a0 : Array Value} (hw : ∀ d ∈ tables_1, d.before a0 Z = true) : (Jvm.Cond.static ({ cls := "com/example/briareus/briareus/AttributeTypeIsKeyTypePinLaw", name := "pick", desc := "(I)Lcom/example/briareus/briareus/AttributeType;" } : Jvm.MethodName)).before a0 Z = true := hw _ (List.mem_of_getElem? (i := 2) rfl)
set_option maxRecDepth 65536 in
theorem wd4 {Z : State} {a0 : Array Value} (hw : ∀ d ∈ tables_1, d.before a0 Z = true) : (Jvm.Cond.code ({ cls := "com/example/briareus/briareus/AttributeTypeIsKeyTypePinLaw", name := "pick", desc := "(I)Lcom/example/briareus/briareus/AttributeType;" } : Jvm.MethodName) method_2_code (1 : Nat) (Option.some (Jvm.ClassFile.FieldType.object "com/example/briareus/briareus/AttributeType"))).before a0 Z = true := hw _ (List.mem_of_getElem? (i := 4) rfl)
theorem d0_12 : Dc code 12 (.astore_n 2) 1 13 := ⟨by decide +kernel, rfl⟩
theorem d0_13 : Dc code 13 (.iload_n 1) 1 14 := ⟨by decide +kernel, rfl⟩
theorem d0_14 : Db code 14 (.ifCond .eq 13) 13 17 27 := ⟨by decide +kernel, rfl, by decide, by decide⟩
theorem d0_27 : Dc code 27 (.iconst 1) 1 28 := ⟨by decide +kernel, rfl⟩
theorem d0_28 : Db code 28 (.goto 4) 4 31 32 := ⟨by decide +kernel, rfl, by decide, by decide⟩
theorem d0_17 : Dc code 17 (.iload_n 1) 1 18 := ⟨by decide +kernel, rfl⟩
theorem d0_18 : Dc code 18 (.iconst 1) 1 19 := ⟨by decide +kernel, rfl⟩
theorem d0_19 : Db code 19 (.if_icmp .eq 8) 8 22 27 := ⟨by decide +kernel, rfl, by decide, by decide⟩
theorem d0_22 : Dc code 22 (.iload_n 1) 1 23 := ⟨by decide +kernel, rfl⟩
theorem d0_23 : Dc code 23 (.iconst 2) 1 24 := ⟨by decide +kernel, rfl⟩
theorem d0_24 : Db code 24 (.if_icmp .ne 7) 7 27 31 := ⟨by decide +kernel, rfl, by decide, by decide⟩
theorem d0_31 : Dc code 31 (.iconst 0) 1 32 := ⟨by decide +kernel, rfl⟩
theorem d0_32 : Dc code 32 (.istore_n 3) 1 33 := ⟨by decide +kernel, rfl⟩
theorem d0_33 : Dc code 33 (.aload_n 2) 1 34 := ⟨by decide +kernel, rfl⟩
theorem d0_34 : Dc code 34 (.invokevirtual 47) 3 37 := ⟨by decide +kernel, rfl⟩
set_option maxRecDepth 65536 in
theorem wd6 {Z : State} {a0 : Array Value} (hw : ∀ d ∈ tables_1, d.before a0 Z = true) : (Jvm.Cond.initialized "com/example/briareus/briareus/AttributeType").before a0 Z = true := hw _ (List.mem_of_getElem? (i := 6) rfl)
theorem pd_2 : parseMethodDescriptor "()Z" = some ⟨[], some .boolean⟩ := by decide +kernel
set_option maxRecDepth 65536 in
theorem wd8 {Z : State} {a0 : Array Value} (hw : ∀ d ∈ tables_1, d.before a0 Z = true) : (Jvm.Cond.methodLink "com/example/briareus/briareus/AttributeTypeIsKeyTypePinLaw" (47 : Nat) ({ cls := "com/example/briareus/briareus/AttributeType", name := "isKeyType", desc := "()Z" } : Jvm.MethodName)).before a0 Z = true := hw _ (List.mem_of_getElem? (i := 8) rfl)
set_option maxRecDepth 65536 in
theorem wd9 {Z : State} {a0 : Array Value} (hw : ∀ d ∈ tables_1, d.before a0 Z = true) : (Jvm.Cond.declares ({ cls := "com/example/briareus/briareus/AttributeType", name := "isKeyType", desc := "()Z" } : Jvm.MethodName)).before a0 Z = true := hw _ (List.mem_of_getElem? (i := 9) rfl)
set_option maxRecDepth 65536 in
theorem wd11 {Z : State} {a0 : Array Value} (hw : ∀ d ∈ tables_1, d.before a0 Z = true) : (Jvm.Cond.selects "com/example/briareus/briareus/AttributeType" ({ cls := "com/example/briareus/briareus/AttributeType", name := "isKeyType", desc := "()Z" } : Jvm.MethodName) ({ cls := "com/example/briareus/briareus/AttributeType", name := "isKeyType", desc := "()Z" } : Jvm.MethodName)).before a0 Z = true := hw _ (List.mem_of_getElem? (i := 11) rfl)
set_option maxRecDepth 65536 in
theorem wd10 {Z : State} {a0 : Array Value} (hw : ∀ d ∈ tables_1, d.before a0 Z = true) : (Jvm.Cond.instanceMethod ({ cls := "com/example/briareus/briareus/AttributeType", name := "isKeyType", desc := "()Z" } : Jvm.MethodName)).before a0 Z = true := hw _ (List.mem_of_getElem? (i := 10) rfl)
set_option maxRecDepth 65536 in
theorem wd12 {Z : State} {a0 : Array Value} (hw : ∀ d ∈ tables_1, d.before a0 Z = true) : (Jvm.Cond.code ({ cls := "com/example/briareus/briareus/AttributeType", name := "isKeyType", desc := "()Z" } : Jvm.MethodName) prog_1_method_6_code (1 : Nat) (Option.some Jvm.ClassFile.FieldType.boolean)).before a0 Z = true := hw _ (List.mem_of_getElem? (i := 12) rfl)
theorem d0_37 : Dc code 37 (.iload_n 3) 1 38 := ⟨by decide +kernel, rfl⟩
theorem d0_38 : Db code 38 (.if_icmp .ne 7) 7 41 45 := ⟨by decide +kernel, rfl, by decide, by decide⟩
theorem d0_41 : Dc code 41 (.iconst 1) 1 42 := ⟨by decide +kernel, rfl⟩
theorem d0_42 : Db code 42 (.goto 4) 4 45 46 := ⟨by decide +kernel, rfl, by decide, by decide⟩
theorem d0_46 : Dc code 46 .ireturn 1 47 := ⟨by decide +kernel, rfl⟩
theorem ef0 (m : MethodId) (x0 : Int32) : entryFrame m #[.int x0] maxLocals = mkF m 0 #[.val (.int x0), .unset, .unset, .unset] [] := by first | (simp [entryFrame, mkF, argsToLocals, Value.category, maxLocals]; done) | rfl
theorem pn0 : plainFor (x : MethodName) = true := plainFor_of_name (by show plainName "com/example/briareus/briareus/AttributeTypeIsKeyTypePinLaw" = true; first | (simp [plainName, overriddenIn]; done) | decide +kernel)
set_option maxRecDepth 65536 in
theorem wd7 {Z : State} {a0 : Array Value} (hw : ∀ d ∈ tables_1, d.before a0 Z = true) : (Jvm.Cond.laysStatic "com/example/briareus/briareus/AttributeType" "S" "Lcom/example/briareus/briareus/AttributeType;").before a0 Z = true := hw _ (List.mem_of_getElem? (i := 7) rfl)
set_option maxRecDepth 65536 in
theorem wd15 {Z : State} {a0 : Array Value} (hw : ∀ d ∈ tables_1, d.before a0 Z = true) : (Jvm.Cond.laysStatic "com/example/briareus/briareus/AttributeType" "BOOL" "Lcom/example/briareus/briareus/AttributeType;").before a0 Z = true := hw _ (List.mem_of_getElem? (i := 15) rfl)
set_option maxRecDepth 65536 in
theorem wd17 {Z : State} {a0 : Array Value} (hw : ∀ d ∈ tables_1, d.before a0 Z = true) : (Jvm.Cond.laysStatic "com/example/briareus/briareus/AttributeType" "N" "Lcom/example/briareus/briareus/AttributeType;").before a0 Z = true := hw _ (List.mem_of_getElem? (i := 17) rfl)
set_option maxRecDepth 65536 in
theorem wd19 {Z : State} {a0 : Array Value} (hw : ∀ d ∈ tables_1, d.before a0 Z = true) : (Jvm.Cond.laysStatic "com/example/briareus/briareus/AttributeType" "B" "Lcom/example/briareus/briareus/AttributeType;").before a0 Z = true := hw _ (List.mem_of_getElem? (i := 19) rfl)
set_option maxRecDepth 65536 in
theorem wd22 {Z : State} {a0 : Array Value} (hw : ∀ d ∈ tables_1, d.before a0 Z = true) : (Jvm.Cond.laysStatic "com/example/briareus/briareus/AttributeType" "NULL" "Lcom/example/briareus/briareus/AttributeType;").before a0 Z = true := hw _ (List.mem_of_getElem? (i := 22) rfl)
set_option maxRecDepth 65536 in
theorem wd24 {Z : State} {a0 : Array Value} (hw : ∀ d ∈ tables_1, d.before a0 Z = true) : (Jvm.Cond.laysStatic "com/example/briareus/briareus/AttributeType" "SS" "Lcom/example/briareus/briareus/AttributeType;").before a0 Z = true := hw _ (List.mem_of_getElem? (i := 24) rfl)
set_option maxRecDepth 65536 in
theorem wd27 {Z : State} {a0 : Array Value} (hw : ∀ d ∈ tables_1, d.before a0 Z = true) : (Jvm.Cond.laysStatic "com/example/briareus/briareus/AttributeType" "NS" "Lcom/example/briareus/briareus/AttributeType;").before a0 Z = true := hw _ (List.mem_of_getElem? (i := 27) rfl)
set_option maxRecDepth 65536 in
theorem wd29 {Z : State} {a0 : Array Value} (hw : ∀ d ∈ tables_1, d.before a0 Z = true) : (Jvm.Cond.laysStatic "com/example/briareus/briareus/AttributeType" "BS" "Lcom/example/briareus/briareus/AttributeType;").before a0 Z = true := hw _ (List.mem_of_getElem? (i := 29) rfl)
set_option maxRecDepth 65536 in
theorem wd31 {Z : State} {a0 : Array Value} (hw : ∀ d ∈ tables_1, d.before a0 Z = true) : (Jvm.Cond.laysStatic "com/example/briareus/briareus/AttributeType" "L" "Lcom/example/briareus/briareus/AttributeType;").before a0 Z = true := hw _ (List.mem_of_getElem? (i := 31) rfl)
set_option maxRecDepth 65536 in
theorem wd33 {Z : State} {a0 : Array Value} (hw : ∀ d ∈ tables_1, d.before a0 Z = true) : (Jvm.Cond.laysStatic "com/example/briareus/briareus/AttributeType" "M" "Lcom/example/briareus/briareus/AttributeType;").before a0 Z = true := hw _ (List.mem_of_getElem? (i := 33) rfl)
def own_pick (e0 e1 e2 e3 e4 e5 e6 e7 e8 e9 : Addr) (k : Int32) : Addr := if k = 0 then e0 else if k = 1 then e1 else if k = 2 then e2 else if k = 3 then e3 else if k = 4 then e4 else if k = 5 then e5 else if k = 6 then e6 else if k = 7 then e7 else if k = 8 then e8 else e9
def own_key (e0 e1 e2 a : Addr) : Int32 := if a = e0 ∨ a = e1 ∨ a = e2 then 1 else 0
def own_exp (k : Int32) : Int32 := if k = 0 ∨ k = 1 ∨ k = 2 then 1 else 0
theorem own_k1 {e0 e1 e2 a : Addr} (h : a = e0 ∨ a = e1 ∨ a = e2) : own_key e0 e1 e2 a = 1 := if_pos h
theorem own_k0 {e0 e1 e2 a : Addr} (h : ¬ (a = e0 ∨ a = e1 ∨ a = e2)) : own_key e0 e1 e2 a = 0 := if_neg h
theorem own_x1 {k : Int32} (h : k = 0 ∨ k = 1 ∨ k = 2) : own_exp k = 1 := if_pos h
theorem own_x0 {k : Int32} (h : ¬ (k = 0 ∨ k = 1 ∨ k = 2)) : own_exp k = 0 := if_neg h
theorem own_exa {Z : State} {h : Heap} {e0 e1 e2 e3 e4 e5 e6 e7 e8 e9 : Addr} {C : String} (E0 : Exa Z h e0 C) (E1 : Exa Z h e1 C) (E2 : Exa Z h e2 C) (E3 : Exa Z h e3 C) (E4 : Exa Z h e4 C) (E5 : Exa Z h e5 C) (E6 : Exa Z h e6 C) (E7 : Exa Z h e7 C) (E8 : Exa Z h e8 C) (E9 : Exa Z h e9 C) (k : Int32) : Exa Z h (own_pick e0 e1 e2 e3 e4 e5 e6 e7 e8 e9 k) C := by
  unfold own_pick
  repeat' split
  all_goals assumption
/-- the ordinals tell the constants apart -/
def Ord (Z : State) (h : Heap) (a : Addr) (i : Int32) : Prop := Fld Z h a "java/lang/Enum" "ordinal" "I" (.int i)
theorem Ord.ne {Z : State} {h : Heap} {a b : Addr} {i j : Int32} (F : Ord Z h a i) (G : Ord Z h b j) (q : i ≠ j) : a ≠ b := Fld.ne F G (fun e => q (Value.int.inj e))
theorem own_eq {Z : State} {h : Heap} {e0 e1 e2 e3 e4 e5 e6 e7 e8 e9 : Addr} (O0 : Ord Z h e0 0) (O1 : Ord Z h e1 1) (O2 : Ord Z h e2 2) (O3 : Ord Z h e3 3) (O4 : Ord Z h e4 4) (O5 : Ord Z h e5 5) (O6 : Ord Z h e6 6) (O7 : Ord Z h e7 7) (O8 : Ord Z h e8 8) (O9 : Ord Z h e9 9) (k : Int32) : own_key e0 e1 e2 (own_pick e0 e1 e2 e3 e4 e5 e6 e7 e8 e9 k) = own_exp k := by
  by_cases h0 : k = 0
  · rw [own_x1 (Or.inl h0), own_k1]; left; simp [own_pick, h0]
  by_cases h1 : k = 1
  · rw [own_x1 (Or.inr (Or.inl h1)), own_k1]; right; left; simp [own_pick, h1]
  by_cases h2 : k = 2
  · rw [own_x1 (Or.inr (Or.inr h2)), own_k1]; right; right; simp [own_pick, h2]
  rw [own_x0 (by simp [h0, h1, h2]), own_k0]
  unfold own_pick
  rw [if_neg h0, if_neg h1, if_neg h2]
  have N : ∀ (a : Addr) (i : Int32), Ord Z h a i → i ≠ 0 → i ≠ 1 → i ≠ 2 → ¬ (a = e0 ∨ a = e1 ∨ a = e2) := fun a i F q0 q1 q2 q => q.elim (F.ne O0 q0) (fun q => q.elim (F.ne O1 q1) (F.ne O2 q2))
  repeat' split
  · exact N _ _ O3 (by decide) (by decide) (by decide)
  · exact N _ _ O4 (by decide) (by decide) (by decide)
  · exact N _ _ O5 (by decide) (by decide) (by decide)
  · exact N _ _ O6 (by decide) (by decide) (by decide)
  · exact N _ _ O7 (by decide) (by decide) (by decide)
  · exact N _ _ O8 (by decide) (by decide) (by decide)
  · exact N _ _ O9 (by decide) (by decide) (by decide)

set_option maxRecDepth 65536 in
set_option maxHeartbeats 40000000 in
theorem rmP (l : Launch) (Z : State) (a0 : Array Value) (hw : ∀ d ∈ tables_1, d.before a0 Z = true) (k : Int32) (e0 e1 e2 e3 e4 e5 e6 e7 e8 e9 : Addr) (h : Heap) (n0 : Nat) (P0 : Sta Z h "com/example/briareus/briareus/AttributeType" "S" "Lcom/example/briareus/briareus/AttributeType;" (.ref e0)) (P1 : Sta Z h "com/example/briareus/briareus/AttributeType" "N" "Lcom/example/briareus/briareus/AttributeType;" (.ref e1)) (P2 : Sta Z h "com/example/briareus/briareus/AttributeType" "B" "Lcom/example/briareus/briareus/AttributeType;" (.ref e2)) (P3 : Sta Z h "com/example/briareus/briareus/AttributeType" "BOOL" "Lcom/example/briareus/briareus/AttributeType;" (.ref e3)) (P4 : Sta Z h "com/example/briareus/briareus/AttributeType" "NULL" "Lcom/example/briareus/briareus/AttributeType;" (.ref e4)) (P5 : Sta Z h "com/example/briareus/briareus/AttributeType" "L" "Lcom/example/briareus/briareus/AttributeType;" (.ref e5)) (P6 : Sta Z h "com/example/briareus/briareus/AttributeType" "M" "Lcom/example/briareus/briareus/AttributeType;" (.ref e6)) (P7 : Sta Z h "com/example/briareus/briareus/AttributeType" "SS" "Lcom/example/briareus/briareus/AttributeType;" (.ref e7)) (P8 : Sta Z h "com/example/briareus/briareus/AttributeType" "NS" "Lcom/example/briareus/briareus/AttributeType;" (.ref e8)) (P9 : Sta Z h "com/example/briareus/briareus/AttributeType" "BS" "Lcom/example/briareus/briareus/AttributeType;" (.ref e9)) : Con l Z ⟨"com/example/briareus/briareus/AttributeTypeIsKeyTypePinLaw", "pick", "(I)Lcom/example/briareus/briareus/AttributeType;"⟩ method_2_code 1 (some (.object "com/example/briareus/briareus/AttributeType")) ({ frames := 0, cells := 0, slots := 0, locals := 0 } : Room) #[.int k] h n0 (fun v h' => v = some (.ref (own_pick e0 e1 e2 e3 e4 e5 e6 e7 e8 e9 k)) ∧ h' = h) := by
  refine Con.of pnP (fun m => efP m k) (fun E K => ?_)
  refine K.iloadN dP_0 rfl ?_
  refine K.if_ne dP_1 (fun hc1 => ?_) (fun hc1 => ?_)
  · refine K.getS dP_4 (wd5 hw) P0 ?_
    exact K.areturn dP_7 rfl rfl rfl (by decide) (by decide) ⟨(by simp [own_pick, hc1]), rfl⟩
  · refine K.iloadN dP_8 rfl ?_
    refine K.iconst (1 : Int32) dP_9 rfl ?_
    refine K.ic_ne dP_10 (fun hc2 => ?_) (fun hc2 => ?_)
    · refine K.getS dP_13 (wd20 hw) P1 ?_
      exact K.areturn dP_16 rfl rfl rfl (by decide) (by decide) ⟨(by simp [own_pick, hc1, hc2]), rfl⟩
    · refine K.iloadN dP_17 rfl ?_
      refine K.iconst (2 : Int32) dP_18 rfl ?_
      refine K.ic_ne dP_19 (fun hc3 => ?_) (fun hc3 => ?_)
      · refine K.getS dP_22 (wd25 hw) P2 ?_
        exact K.areturn dP_25 rfl rfl rfl (by decide) (by decide) ⟨(by simp [own_pick, hc1, hc2, hc3]), rfl⟩
      · refine K.iloadN dP_26 rfl ?_
        refine K.iconst (3 : Int32) dP_27 rfl ?_
        refine K.ic_ne dP_28 (fun hc4 => ?_) (fun hc4 => ?_)
        · refine K.getS dP_31 (wd14 hw) P3 ?_
          exact K.areturn dP_34 rfl rfl rfl (by decide) (by decide) ⟨(by simp [own_pick, hc1, hc2, hc3, hc4]), rfl⟩
        · refine K.iloadN dP_35 rfl ?_
          refine K.iconst (4 : Int32) dP_36 rfl ?_
          refine K.ic_ne dP_37 (fun hc5 => ?_) (fun hc5 => ?_)
          · refine K.getS dP_40 (wd21 hw) P4 ?_
            exact K.areturn dP_43 rfl rfl rfl (by decide) (by decide) ⟨(by simp [own_pick, hc1, hc2, hc3, hc4, hc5]), rfl⟩
          · refine K.iloadN dP_44 rfl ?_
            refine K.iconst (5 : Int32) dP_45 rfl ?_
            refine K.ic_ne dP_46 (fun hc6 => ?_) (fun hc6 => ?_)
            · refine K.getS dP_49 (wd30 hw) P5 ?_
              exact K.areturn dP_52 rfl rfl rfl (by decide) (by decide) ⟨(by simp [own_pick, hc1, hc2, hc3, hc4, hc5, hc6]), rfl⟩
            · refine K.iloadN dP_53 rfl ?_
              refine K.bipush (6 : Int32) dP_54 rfl ?_
              refine K.ic_ne dP_56 (fun hc7 => ?_) (fun hc7 => ?_)
              · refine K.getS dP_59 (wd32 hw) P6 ?_
                exact K.areturn dP_62 rfl rfl rfl (by decide) (by decide) ⟨(by simp [own_pick, hc1, hc2, hc3, hc4, hc5, hc6, hc7]), rfl⟩
              · refine K.iloadN dP_63 rfl ?_
                refine K.bipush (7 : Int32) dP_64 rfl ?_
                refine K.ic_ne dP_66 (fun hc8 => ?_) (fun hc8 => ?_)
                · refine K.getS dP_69 (wd23 hw) P7 ?_
                  exact K.areturn dP_72 rfl rfl rfl (by decide) (by decide) ⟨(by simp [own_pick, hc1, hc2, hc3, hc4, hc5, hc6, hc7, hc8]), rfl⟩
                · refine K.iloadN dP_73 rfl ?_
                  refine K.bipush (8 : Int32) dP_74 rfl ?_
                  refine K.ic_ne dP_76 (fun hc9 => ?_) (fun hc9 => ?_)
                  · refine K.getS dP_79 (wd26 hw) P8 ?_
                    exact K.areturn dP_82 rfl rfl rfl (by decide) (by decide) ⟨(by simp [own_pick, hc1, hc2, hc3, hc4, hc5, hc6, hc7, hc8, hc9]), rfl⟩
                  · refine K.getS dP_83 (wd28 hw) P9 ?_
                    exact K.areturn dP_86 rfl rfl rfl (by decide) (by decide) ⟨(by simp [own_pick, hc1, hc2, hc3, hc4, hc5, hc6, hc7, hc8, hc9]), rfl⟩
set_option maxRecDepth 65536 in
set_option maxHeartbeats 40000000 in
theorem rmK (l : Launch) (Z : State) (a0 : Array Value) (hw : ∀ d ∈ tables_1, d.before a0 Z = true) (a e0 e1 e2 : Addr) (h : Heap) (n0 : Nat) (P0 : Sta Z h "com/example/briareus/briareus/AttributeType" "S" "Lcom/example/briareus/briareus/AttributeType;" (.ref e0)) (P1 : Sta Z h "com/example/briareus/briareus/AttributeType" "N" "Lcom/example/briareus/briareus/AttributeType;" (.ref e1)) (P2 : Sta Z h "com/example/briareus/briareus/AttributeType" "B" "Lcom/example/briareus/briareus/AttributeType;" (.ref e2)) : Con l Z ⟨"com/example/briareus/briareus/AttributeType", "isKeyType", "()Z"⟩ prog_1_method_6_code 1 (some .boolean) ({ frames := 0, cells := 0, slots := 0, locals := 0 } : Room) #[.ref a] h n0 (fun v h' => v = some (.int (own_key e0 e1 e2 a)) ∧ h' = h) := by
  refine Con.of pnK (fun m => efK m a) (fun E K => ?_)
  refine K.aloadN dK_0 rfl rfl ?_
  refine K.getS dK_1 (wd13 hw) P0 ?_
  refine K.ac_eq dK_4 (fun hc1 => ?_) (fun hc1 => ?_)
  · refine K.iconst (1 : Int32) dK_21 rfl ?_
    refine K.goto dK_22 ?_
    exact K.ireturn dK_26 (Or.inr (Or.inl rfl)) rfl (by decide) (by decide) ⟨(by rw [own_k1 (Or.inl hc1)]), rfl⟩
  · refine K.aloadN dK_7 rfl rfl ?_
    refine K.getS dK_8 (wd16 hw) P1 ?_
    refine K.ac_eq dK_11 (fun hc2 => ?_) (fun hc2 => ?_)
    · refine K.iconst (1 : Int32) dK_21 rfl ?_
      refine K.goto dK_22 ?_
      exact K.ireturn dK_26 (Or.inr (Or.inl rfl)) rfl (by decide) (by decide) ⟨(by rw [own_k1 (Or.inr (Or.inl hc2))]), rfl⟩
    · refine K.aloadN dK_14 rfl rfl ?_
      refine K.getS dK_15 (wd18 hw) P2 ?_
      refine K.ac_ne dK_18 (fun hc3 => ?_) (fun hc3 => ?_)
      · refine K.iconst (1 : Int32) dK_21 rfl ?_
        refine K.goto dK_22 ?_
        exact K.ireturn dK_26 (Or.inr (Or.inl rfl)) rfl (by decide) (by decide) ⟨(by rw [own_k1 (Or.inr (Or.inr hc3))]), rfl⟩
      · refine K.iconst (0 : Int32) dK_25 rfl ?_
        exact K.ireturn dK_26 (Or.inr (Or.inl rfl)) rfl (by decide) (by decide) ⟨(by rw [own_k0 (fun q => q.elim hc1 (fun q => q.elim hc2 hc3))]), rfl⟩
set_option maxRecDepth 65536 in
set_option maxHeartbeats 40000000 in
theorem rm0 (l : Launch) (Z : State) (a0 : Array Value) (hw : ∀ d ∈ tables_1, d.before a0 Z = true) (p : Int32) (e0 e1 e2 e3 e4 e5 e6 e7 e8 e9 : Addr) (h : Heap) (n0 : Nat) (S0 : Sta Z h "com/example/briareus/briareus/AttributeType" "S" "Lcom/example/briareus/briareus/AttributeType;" (.ref e0)) (S1 : Sta Z h "com/example/briareus/briareus/AttributeType" "N" "Lcom/example/briareus/briareus/AttributeType;" (.ref e1)) (S2 : Sta Z h "com/example/briareus/briareus/AttributeType" "B" "Lcom/example/briareus/briareus/AttributeType;" (.ref e2)) (S3 : Sta Z h "com/example/briareus/briareus/AttributeType" "BOOL" "Lcom/example/briareus/briareus/AttributeType;" (.ref e3)) (S4 : Sta Z h "com/example/briareus/briareus/AttributeType" "NULL" "Lcom/example/briareus/briareus/AttributeType;" (.ref e4)) (S5 : Sta Z h "com/example/briareus/briareus/AttributeType" "L" "Lcom/example/briareus/briareus/AttributeType;" (.ref e5)) (S6 : Sta Z h "com/example/briareus/briareus/AttributeType" "M" "Lcom/example/briareus/briareus/AttributeType;" (.ref e6)) (S7 : Sta Z h "com/example/briareus/briareus/AttributeType" "SS" "Lcom/example/briareus/briareus/AttributeType;" (.ref e7)) (S8 : Sta Z h "com/example/briareus/briareus/AttributeType" "NS" "Lcom/example/briareus/briareus/AttributeType;" (.ref e8)) (S9 : Sta Z h "com/example/briareus/briareus/AttributeType" "BS" "Lcom/example/briareus/briareus/AttributeType;" (.ref e9)) (E0 : Exa Z h e0 "com/example/briareus/briareus/AttributeType") (O0 : Ord Z h e0 0) (E1 : Exa Z h e1 "com/example/briareus/briareus/AttributeType") (O1 : Ord Z h e1 1) (E2 : Exa Z h e2 "com/example/briareus/briareus/AttributeType") (O2 : Ord Z h e2 2) (E3 : Exa Z h e3 "com/example/briareus/briareus/AttributeType") (O3 : Ord Z h e3 3) (E4 : Exa Z h e4 "com/example/briareus/briareus/AttributeType") (O4 : Ord Z h e4 4) (E5 : Exa Z h e5 "com/example/briareus/briareus/AttributeType") (O5 : Ord Z h e5 5) (E6 : Exa Z h e6 "com/example/briareus/briareus/AttributeType") (O6 : Ord Z h e6 6) (E7 : Exa Z h e7 "com/example/briareus/briareus/AttributeType") (O7 : Ord Z h e7 7) (E8 : Exa Z h e8 "com/example/briareus/briareus/AttributeType") (O8 : Ord Z h e8 8) (E9 : Exa Z h e9 "com/example/briareus/briareus/AttributeType") (O9 : Ord Z h e9 9) : Con l Z x code maxLocals ret room_1 #[.int p] h n0 (fun v h' => v = some (.int 1)) := by
  refine Con.of pn0 (fun m => ef0 m p) (fun E K => ?_)
  refine K.iloadN d0_0 rfl ?_
  refine K.ldcI d0_1 (wd0 hw) ?_
  refine K.iand d0_3 ?_
  refine K.bipush (10 : Int32) d0_4 rfl ?_
  refine K.irem d0_6 (by decide) ?_
  refine K.istoreN #[.val (.int p), .val (.int ((p &&& (2147483647 : Int32)) % (10 : Int32))), .unset, .unset] d0_7 rfl ?_
  refine K.iloadN d0_8 rfl ?_
  refine cut (P := ∀ k : Int32, Wk E h 0 0 9 #[.val (.int p), .val (.int k), .unset, .unset] [.int k]) (fun J1 => ?_) ?_
  · exact J1 _
  intro k
  refine K.callS [.int k] [] 0 0 0 d0_9 (wd1 hw) (wd2 hw) (wd3 hw) (wd4 hw) (by decide) (rmP l Z a0 hw k e0 e1 e2 e3 e4 e5 e6 e7 e8 e9 h n0 S0 S1 S2 S3 S4 S5 S6 S7 S8 S9) rfl (lenOf pd_1 rfl) rfl (Nat.le_of_eq rfl) (by decide) (by decide) rfl rfl (by decide) (by decide) (goP ?_)
  have EK := own_exa E0 E1 E2 E3 E4 E5 E6 E7 E8 E9 k
  refine K.astoreN #[.val (.int p), .val (.int k), .val (.ref (own_pick e0 e1 e2 e3 e4 e5 e6 e7 e8 e9 k)), .unset] d0_12 rfl rfl ?_
  refine K.iloadN d0_13 rfl ?_
  refine cut (P := ∀ z : Int32, z = own_exp k → Wk E h 0 0 32 #[.val (.int p), .val (.int k), .val (.ref (own_pick e0 e1 e2 e3 e4 e5 e6 e7 e8 e9 k)), .unset] [.int z]) (fun J2 => ?_) ?_
  · refine K.if_eq d0_14 (fun hc3 => ?_) (fun hc3 => ?_)
    · refine K.iconst (1 : Int32) d0_27 rfl ?_
      refine K.goto d0_28 ?_
      exact J2 _ (own_x1 (Or.inl hc3)).symm
    · refine K.iloadN d0_17 rfl ?_
      refine K.iconst (1 : Int32) d0_18 rfl ?_
      refine K.ic_eq d0_19 (fun hc4 => ?_) (fun hc4 => ?_)
      · refine K.iconst (1 : Int32) d0_27 rfl ?_
        refine K.goto d0_28 ?_
        exact J2 _ (own_x1 (Or.inr (Or.inl hc4))).symm
      · refine K.iloadN d0_22 rfl ?_
        refine K.iconst (2 : Int32) d0_23 rfl ?_
        refine K.ic_ne d0_24 (fun hc5 => ?_) (fun hc5 => ?_)
        · refine K.iconst (1 : Int32) d0_27 rfl ?_
          refine K.goto d0_28 ?_
          exact J2 _ (own_x1 (Or.inr (Or.inr hc5))).symm
        · refine K.iconst (0 : Int32) d0_31 rfl ?_
          exact J2 _ (own_x0 (fun q => q.elim hc3 (fun q => q.elim hc4 hc5))).symm
  intro z hz
  refine K.istoreN #[.val (.int p), .val (.int k), .val (.ref (own_pick e0 e1 e2 e3 e4 e5 e6 e7 e8 e9 k)), .val (.int z)] d0_32 rfl ?_
  refine K.aloadN d0_33 rfl rfl ?_
  refine K.callV (a := own_pick e0 e1 e2 e3 e4 e5 e6 e7 e8 e9 k) [] [] 0 0 0 d0_34 (wd8 hw) (wd9 hw) (wd11 hw) (wd10 hw) (wd6 hw) (wd12 hw) (by decide) (rmK l Z a0 hw (own_pick e0 e1 e2 e3 e4 e5 e6 e7 e8 e9 k) e0 e1 e2 h n0 S0 S1 S2) EK rfl (lenOf pd_2 rfl) rfl (Nat.le_of_eq rfl) (by decide) (by decide) rfl rfl (by decide) (by decide) (goP ?_)
  refine K.iloadN d0_37 rfl ?_
  refine K.ic_ne d0_38 (fun _ => ?_) (fun u => absurd ((own_eq O0 O1 O2 O3 O4 O5 O6 O7 O8 O9 k).trans hz.symm) u)
  refine K.iconst (1 : Int32) d0_41 rfl ?_
  refine K.goto d0_42 ?_
  exact K.ireturn d0_46 (Or.inr (Or.inl rfl)) rfl (by decide) (by decide) rfl
set_option maxRecDepth 65536 in
set_option maxHeartbeats 40000000 in
theorem comes_1 {Post : Tables → Env → Array Value → State → Outcome → State → Prop} (hpost : ∀ tb e args s v u, (limb_1_1.after args s (.returned v) u = true ∧ limb_1_2.after args s (.returned v) u = true ∧ True) → FrameEnd s (.returned v) u (Jvm.fieldLocs frame_1_writes args s ++ Jvm.arrayLocs frame_1_arrays args s ++ Jvm.staticLocs frame_1_statics s) 0 0 → Post tb e args s (.returned v) u) :
    ArmFor flags0 classFile x code maxLocals ret World_1 tables_1 room_1 Calls_1 rest_1 Pre_1 Post := by
  intro l hfl _ _ p e ha hc hk s m args below hf hA hF happ hP
  obtain ⟨hcalls, hrest, hpre⟩ := hP
  obtain ⟨-, -, -, hnamed, -, -, -, hat⟩ := (Spec.applies_iff hf).mp happ
  obtain ⟨hg, hn⟩ := and_e (Cond.before_iff.mp (show (Jvm.Cond.and given_1 narrow_1).before args s = true from hpre))
  obtain ⟨hcount, hk0⟩ := and_e hg

  obtain ⟨w0, rfl⟩ : ∃ w0 : Value, args = #[w0] := by
    have hs : args.size = 1 := by simpa [Cond.value, given_1] using hcount
    obtain ⟨L⟩ := args
    match L, hs with
    | [w0], _ => exact ⟨w0, rfl⟩
  have hw := fun d (hd : d ∈ tables_1) => atoms_spec (ws := Jvm.Cond.code x code maxLocals ret :: tables_1) hat d (List.mem_cons_of_mem _ hd)
  obtain ⟨i0, e0⟩ := is_v hk0
  obtain rfl : w0 = (.int i0) := Option.some.inj e0
  obtain ⟨c0, n0⟩ := and_e hn
  obtain ⟨c1, n1⟩ := and_e n0
  obtain ⟨c2, n2⟩ := and_e n1
  obtain ⟨c3, n3⟩ := and_e n2
  obtain ⟨c4, n4⟩ := and_e n3
  obtain ⟨c5, n5⟩ := and_e n4
  obtain ⟨c6, n6⟩ := and_e n5
  obtain ⟨c7, n7⟩ := and_e n6
  obtain ⟨c8, n8⟩ := and_e n7
  obtain ⟨c9, n9⟩ := and_e n8
  obtain ⟨c10, n10⟩ := and_e n9
  obtain ⟨c11, n11⟩ := and_e n10
  obtain ⟨c12, n12⟩ := and_e n11
  obtain ⟨c13, n13⟩ := and_e n12
  obtain ⟨c14, n14⟩ := and_e n13
  obtain ⟨c15, n15⟩ := and_e n14
  obtain ⟨c16, n16⟩ := and_e n15
  obtain ⟨c17, n17⟩ := and_e n16
  obtain ⟨c18, n18⟩ := and_e n17
  have c19 := n18
  obtain ⟨e0x, v0x⟩ := exa_v c0
  have S0 : Sta s s.heap "com/example/briareus/briareus/AttributeType" "S" "Lcom/example/briareus/briareus/AttributeType;" (.ref e0x) := Sta.start v0x (Or.inr ⟨wd6 hw, wd7 hw⟩)
  have E0 := Exa.start v0x c0
  obtain ⟨e3x, v3x⟩ := exa_v c1
  have S3 : Sta s s.heap "com/example/briareus/briareus/AttributeType" "BOOL" "Lcom/example/briareus/briareus/AttributeType;" (.ref e3x) := Sta.start v3x (Or.inr ⟨wd6 hw, wd15 hw⟩)
  have E3 := Exa.start v3x c1
  obtain ⟨e1x, v1x⟩ := exa_v c4
  have S1 : Sta s s.heap "com/example/briareus/briareus/AttributeType" "N" "Lcom/example/briareus/briareus/AttributeType;" (.ref e1x) := Sta.start v1x (Or.inr ⟨wd6 hw, wd17 hw⟩)
  have E1 := Exa.start v1x c4
  obtain ⟨e2x, v2x⟩ := exa_v c6
  have S2 : Sta s s.heap "com/example/briareus/briareus/AttributeType" "B" "Lcom/example/briareus/briareus/AttributeType;" (.ref e2x) := Sta.start v2x (Or.inr ⟨wd6 hw, wd19 hw⟩)
  have E2 := Exa.start v2x c6
  obtain ⟨e4x, v4x⟩ := exa_v c8
  have S4 : Sta s s.heap "com/example/briareus/briareus/AttributeType" "NULL" "Lcom/example/briareus/briareus/AttributeType;" (.ref e4x) := Sta.start v4x (Or.inr ⟨wd6 hw, wd22 hw⟩)
  have E4 := Exa.start v4x c8
  obtain ⟨e7x, v7x⟩ := exa_v c10
  have S7 : Sta s s.heap "com/example/briareus/briareus/AttributeType" "SS" "Lcom/example/briareus/briareus/AttributeType;" (.ref e7x) := Sta.start v7x (Or.inr ⟨wd6 hw, wd24 hw⟩)
  have E7 := Exa.start v7x c10
  obtain ⟨e8x, v8x⟩ := exa_v c12
  have S8 : Sta s s.heap "com/example/briareus/briareus/AttributeType" "NS" "Lcom/example/briareus/briareus/AttributeType;" (.ref e8x) := Sta.start v8x (Or.inr ⟨wd6 hw, wd27 hw⟩)
  have E8 := Exa.start v8x c12
  obtain ⟨e9x, v9x⟩ := exa_v c14
  have S9 : Sta s s.heap "com/example/briareus/briareus/AttributeType" "BS" "Lcom/example/briareus/briareus/AttributeType;" (.ref e9x) := Sta.start v9x (Or.inr ⟨wd6 hw, wd29 hw⟩)
  have E9 := Exa.start v9x c14
  obtain ⟨e5x, v5x⟩ := exa_v c16
  have S5 : Sta s s.heap "com/example/briareus/briareus/AttributeType" "L" "Lcom/example/briareus/briareus/AttributeType;" (.ref e5x) := Sta.start v5x (Or.inr ⟨wd6 hw, wd31 hw⟩)
  have E5 := Exa.start v5x c16
  obtain ⟨e6x, v6x⟩ := exa_v c18
  have S6 : Sta s s.heap "com/example/briareus/briareus/AttributeType" "M" "Lcom/example/briareus/briareus/AttributeType;" (.ref e6x) := Sta.start v6x (Or.inr ⟨wd6 hw, wd33 hw⟩)
  have E6 := Exa.start v6x c18
  have O3 : Ord s s.heap e3x 3 := Fld.start ((fld_at v3x).symm.trans (eqv_i (Term.int_eval (3)) c2))
  have O0 : Ord s s.heap e0x 0 := Fld.start ((fld_at v0x).symm.trans (eqv_i (Term.int_eval (0)) c3))
  have O1 : Ord s s.heap e1x 1 := Fld.start ((fld_at v1x).symm.trans (eqv_i (Term.int_eval (1)) c5))
  have O2 : Ord s s.heap e2x 2 := Fld.start ((fld_at v2x).symm.trans (eqv_i (Term.int_eval (2)) c7))
  have O4 : Ord s s.heap e4x 4 := Fld.start ((fld_at v4x).symm.trans (eqv_i (Term.int_eval (4)) c9))
  have O7 : Ord s s.heap e7x 7 := Fld.start ((fld_at v7x).symm.trans (eqv_i (Term.int_eval (7)) c11))
  have O8 : Ord s s.heap e8x 8 := Fld.start ((fld_at v8x).symm.trans (eqv_i (Term.int_eval (8)) c13))
  have O9 : Ord s s.heap e9x 9 := Fld.start ((fld_at v9x).symm.trans (eqv_i (Term.int_eval (9)) c15))
  have O5 : Ord s s.heap e5x 5 := Fld.start ((fld_at v5x).symm.trans (eqv_i (Term.int_eval (5)) c17))
  have O6 : Ord s s.heap e6x 6 := Fld.start ((fld_at v6x).symm.trans (eqv_i (Term.int_eval (6)) c19))
  obtain ⟨n, o, h1, h2, h3, _, L, rfl, ⟨rfl, N⟩, hq⟩ := rm0 l s _ hw i0 e0x e1x e2x e3x e4x e5x e6x e7x e8x e9x s.heap s.heap.size S0 S1 S2 S3 S4 S5 S6 S7 S8 S9 E0 O0 E1 O1 E2 O2 E3 O3 E4 O4 E5 O5 E6 O6 E7 O7 E8 O8 E9 O9 (Nat.le_refl _) tables_1 p e ha hc hk s m _ below hf ((Spec.applies_iff_loose hf).mp happ).1 ⟨rfl, State.Warmed39.refl s, rfl⟩ trivial
  refine ⟨n, _, h1, h2, h3, hpost _ _ _ _ _ _ ⟨Cond.after_iff.mpr rfl, Cond.after_iff.mpr (eq_i res_at (Term.int_eval (1)) rfl), trivial⟩ ⟨hq.1, hq.2.1, (hq.2.2.sift fun y hy => Or.inr (N y hy)).mono (by decide) (by decide)⟩⟩
theorem main_1_1 : Claimed_1_1 := comes_1 fun _ _ _ _ _ _ h hF => ⟨h.1, hF⟩
theorem main_1_2 : Claimed_1_2 := comes_1 fun _ _ _ _ _ _ h hF => ⟨h.2.1, hF⟩
end Jvm.Pilot.@@N@@
namespace Jvm.Pilot.@@N@@
open Jvm Jvm.ClassFile Sem Op Lib Jvm.Free Jvm.Stand Jvm.Pilot.@@N@@.Jvm.D
/-! MADE BY PROGRAM (witnessworld.py) out of the Statement's table words and the real class files: 12 classes; the members and pool entries that the words name. The judged class is class 1, her method 2. -/
namespace start1
open Jvm.ClassFile
def u (s : String) : CpInfo := .utf8 (stringToUtf16 s)
/-- a pool by its gaps: so many unusable entries, then the entry; so many at the end -/
def gap : Nat → List CpInfo → List CpInfo
  | 0, r => r
  | n + 1, r => .unusable :: gap n r
def poolList (es : List (Nat × CpInfo)) (last : Nat) : List CpInfo := es.foldr (fun e r => gap e.1 (e.2 :: r)) (gap last [])
def pool (es : List (Nat × CpInfo)) (last : Nat) : Array CpInfo := ⟨poolList es last⟩
def fileOf (pool : Array CpInfo) (this : Nat) (attrs : Array Attribute := #[]) (ms : Array MethodInfo := #[]) (fl : Nat := 33) (sup : Nat := 0) (ifs : Array Nat := #[]) (fds : Array FieldInfo := #[]) : ClassFile where
  minorVersion := 0
  majorVersion := 65
  constantPool := pool
  accessFlags := fl
  thisClass := this
  superClass := sup
  interfaces := ifs
  fields := fds
  methods := ms
  attributes := attrs
def plain (name : String) (sup : Option ClassId) : Class where
  name := name
  kind := .ordinary
  loader := none
  accessFlags := 33
  super := sup
  interfaces := #[]
  cf := none
  fields := #[]
  methods := #[]
  instanceTypes := #[]
  staticTypes := #[]
  resolved := #[]
  callSites := []
  init := .initialized
  statics := none
  mirror := none

def pool0 : Array CpInfo := pool [(5, u "<init>"), (0, u "()V"), (1, .class_ 10), (1, u "java/lang/Object")] 113

def k0m0 : Method := { name := "<init>", desc := "()V", sig := { parameters := [], returnType := none }, accessFlags := 1, code := none }
/-- java/lang/Object -/
def k0 : Class := { plain "java/lang/Object" none with
  accessFlags := 33
  interfaces := #[]
  cf := some (fileOf pool0 8 #[] #[{ accessFlags := 1, nameIndex := 5, descriptorIndex := 6, attributes := #[] }] 33 0 #[] #[])
  fields := #[]
  methods := #[k0m0]
  instanceTypes := #[]
  staticTypes := #[]
  resolved := Array.replicate 124 none
  statics := none }

def pool1 : Array CpInfo := pool [(2, .class_ 4), (1, u "java/lang/Object"), (0, u "<init>"), (0, u "()V"), (0, .fieldref 8 9), (0, .class_ 10), (0, .nameAndType 11 12), (0, u "com/example/briareus/briareus/AttributeType"), (0, u "S"), (0, u "Lcom/example/briareus/briareus/AttributeType;"), (0, .fieldref 8 14), (0, .nameAndType 15 12), (0, u "N"), (0, .fieldref 8 17), (0, .nameAndType 18 12), (0, u "B"), (0, .fieldref 8 20), (0, .nameAndType 21 12), (0, u "BOOL"), (0, .fieldref 8 23), (0, .nameAndType 24 12), (0, u "NULL"), (0, .fieldref 8 26), (0, .nameAndType 27 12), (0, u "L"), (0, .fieldref 8 29), (0, .nameAndType 30 12), (0, u "M"), (0, .fieldref 8 32), (0, .nameAndType 33 12), (0, u "SS"), (0, .fieldref 8 35), (0, .nameAndType 36 12), (0, u "NS"), (0, .fieldref 8 38), (0, .nameAndType 39 12), (0, u "BS"), (0, .integer 2147483647), (0, .methodref 42 43), (0, .class_ 44), (0, .nameAndType 45 46), (0, u "com/example/briareus/briareus/AttributeTypeIsKeyTypePinLaw"), (0, u "pick"), (0, u "(I)Lcom/example/briareus/briareus/AttributeType;"), (0, .methodref 8 48), (0, .nameAndType 49 50), (0, u "isKeyType"), (0, u "()Z"), (3, u "law"), (0, u "(I)Z")] 2

def k1m0 : Method := { name := "<init>", desc := "()V", sig := { parameters := [], returnType := none }, accessFlags := 2, code := none }
def k1c1 : Code := { maxStack := 2, maxLocals := 1, code := method_2_code, exceptionTable := #[], attributes := #[] }
def k1m1 : Method := { name := "pick", desc := "(I)Lcom/example/briareus/briareus/AttributeType;", sig := { parameters := [.int], returnType := some (.object "com/example/briareus/briareus/AttributeType") }, accessFlags := 10, code := some k1c1 }
def k1c2 : Code := { maxStack := 2, maxLocals := 4, code := code, exceptionTable := #[], attributes := #[] }
def k1m2 : Method := { name := "law", desc := "(I)Z", sig := { parameters := [.int], returnType := some .boolean }, accessFlags := 9, code := some k1c2 }
/-- com/example/briareus/briareus/AttributeTypeIsKeyTypePinLaw -/
def k1 : Class := { plain "com/example/briareus/briareus/AttributeTypeIsKeyTypePinLaw" (some 0) with
  accessFlags := 49
  interfaces := #[]
  cf := some (fileOf pool1 42 #[] #[{ accessFlags := 2, nameIndex := 5, descriptorIndex := 6, attributes := #[] }, { accessFlags := 10, nameIndex := 45, descriptorIndex := 46, attributes := #[] }, { accessFlags := 9, nameIndex := 54, descriptorIndex := 55, attributes := #[] }] 49 2 #[] #[])
  fields := #[]
  methods := #[k1m0, k1m1, k1m2]
  instanceTypes := #[]
  staticTypes := #[]
  resolved := Array.replicate 58 none
  statics := none }

def pool2 : Array CpInfo := pool [(1, .class_ 2), (0, u "java/lang/constant/Constable"), (0, .class_ 4), (0, u "java/lang/Object")] 6

/-- java/lang/constant/Constable -/
def k2 : Class := { plain "java/lang/constant/Constable" (some 0) with
  accessFlags := 1537
  interfaces := #[]
  cf := some (fileOf pool2 1 #[] #[] 1537 3 #[] #[])
  fields := #[]
  methods := #[]
  instanceTypes := #[]
  staticTypes := #[]
  resolved := Array.replicate 11 none
  statics := none }

def pool3 : Array CpInfo := pool [(1, .class_ 2), (0, u "java/lang/Comparable"), (0, .class_ 4), (0, u "java/lang/Object")] 7

/-- java/lang/Comparable -/
def k3 : Class := { plain "java/lang/Comparable" (some 0) with
  accessFlags := 1537
  interfaces := #[]
  cf := some (fileOf pool3 1 #[] #[] 1537 3 #[] #[])
  fields := #[]
  methods := #[]
  instanceTypes := #[]
  staticTypes := #[]
  resolved := Array.replicate 12 none
  statics := none }

def pool4 : Array CpInfo := pool [(1, .class_ 2), (0, u "java/io/Serializable"), (0, .class_ 4), (0, u "java/lang/Object")] 2

/-- java/io/Serializable -/
def k4 : Class := { plain "java/io/Serializable" (some 0) with
  accessFlags := 1537
  interfaces := #[]
  cf := some (fileOf pool4 1 #[] #[] 1537 3 #[] #[])
  fields := #[]
  methods := #[]
  instanceTypes := #[]
  staticTypes := #[]
  resolved := Array.replicate 7 none
  statics := none }

def pool5 : Array CpInfo := pool [(2, .class_ 4), (1, u "java/lang/Enum"), (0, u "name"), (0, u "Ljava/lang/String;"), (2, u "ordinal"), (0, u "I"), (1, .class_ 14), (1, u "java/lang/Object"), (4, u "hash"), (86, .class_ 108), (1, u "java/lang/Enum$EnumDesc"), (2, .class_ 112), (0, u "java/lang/constant/Constable"), (0, .class_ 114), (0, u "java/lang/Comparable"), (0, .class_ 116), (0, u "java/io/Serializable")] 87

/-- java/lang/Enum -/
def k5 : Class := { plain "java/lang/Enum" (some 0) with
  accessFlags := 1057
  interfaces := #[2, 3, 4]
  cf := some (fileOf pool5 2 #[.nestMembers #[106]] #[] 1057 12 #[111, 113, 115] #[{ accessFlags := 18, nameIndex := 5, descriptorIndex := 6, attributes := #[] }, { accessFlags := 18, nameIndex := 9, descriptorIndex := 10, attributes := #[] }, { accessFlags := 2, nameIndex := 19, descriptorIndex := 10, attributes := #[] }])
  fields := #[{ name := "name", type := (.object "java/lang/String"), accessFlags := 18, slot := 0, constantValue := 0 }, { name := "ordinal", type := .int, accessFlags := 18, slot := 1, constantValue := 0 }, { name := "hash", type := .int, accessFlags := 2, slot := 2, constantValue := 0 }]
  methods := #[]
  instanceTypes := #[(.object "java/lang/String"), .int, .int]
  staticTypes := #[]
  resolved := Array.replicate 204 none
  statics := none }

def pool6 : Array CpInfo := pool [(1, .class_ 2), (0, u "com/example/briareus/briareus/AttributeType"), (0, .fieldref 1 4), (0, .nameAndType 5 6), (0, u "S"), (0, u "Lcom/example/briareus/briareus/AttributeType;"), (0, .fieldref 1 8), (0, .nameAndType 9 6), (0, u "N"), (0, .fieldref 1 11), (0, .nameAndType 12 6), (0, u "B"), (2, u "BOOL"), (2, u "NULL"), (2, u "L"), (2, u "M"), (2, u "SS"), (2, u "NS"), (2, u "BS"), (2, u "$VALUES"), (0, u "[Lcom/example/briareus/briareus/AttributeType;"), (6, .class_ 46), (1, u "java/lang/Enum"), (8, u "spelledOut"), (0, u "Ljava/lang/String;"), (2, u "BY_NAME"), (0, u "Ljava/util/Map;"), (65, u "isKeyType"), (0, u "()Z")] 5

def k6c0 : Code := { maxStack := 2, maxLocals := 1, code := prog_1_method_6_code, exceptionTable := #[], attributes := #[] }
def k6m0 : Method := { name := "isKeyType", desc := "()Z", sig := { parameters := [], returnType := some .boolean }, accessFlags := 0, code := some k6c0 }
/-- com/example/briareus/briareus/AttributeType -/
def k6 : Class := { plain "com/example/briareus/briareus/AttributeType" (some 5) with
  accessFlags := 16433
  interfaces := #[]
  cf := some (fileOf pool6 1 #[] #[{ accessFlags := 0, nameIndex := 126, descriptorIndex := 127, attributes := #[] }] 16433 44 #[] #[{ accessFlags := 16409, nameIndex := 5, descriptorIndex := 6, attributes := #[] }, { accessFlags := 16409, nameIndex := 9, descriptorIndex := 6, attributes := #[] }, { accessFlags := 16409, nameIndex := 12, descriptorIndex := 6, attributes := #[] }, { accessFlags := 16409, nameIndex := 15, descriptorIndex := 6, attributes := #[] }, { accessFlags := 16409, nameIndex := 18, descriptorIndex := 6, attributes := #[] }, { accessFlags := 16409, nameIndex := 21, descriptorIndex := 6, attributes := #[] }, { accessFlags := 16409, nameIndex := 24, descriptorIndex := 6, attributes := #[] }, { accessFlags := 16409, nameIndex := 27, descriptorIndex := 6, attributes := #[] }, { accessFlags := 16409, nameIndex := 30, descriptorIndex := 6, attributes := #[] }, { accessFlags := 16409, nameIndex := 33, descriptorIndex := 6, attributes := #[] }, { accessFlags := 26, nameIndex := 59, descriptorIndex := 60, attributes := #[] }, { accessFlags := 18, nameIndex := 55, descriptorIndex := 56, attributes := #[] }, { accessFlags := 4122, nameIndex := 36, descriptorIndex := 37, attributes := #[] }])
  fields := #[{ name := "S", type := (.object "com/example/briareus/briareus/AttributeType"), accessFlags := 16409, slot := 0, constantValue := 0 }, { name := "N", type := (.object "com/example/briareus/briareus/AttributeType"), accessFlags := 16409, slot := 1, constantValue := 0 }, { name := "B", type := (.object "com/example/briareus/briareus/AttributeType"), accessFlags := 16409, slot := 2, constantValue := 0 }, { name := "BOOL", type := (.object "com/example/briareus/briareus/AttributeType"), accessFlags := 16409, slot := 3, constantValue := 0 }, { name := "NULL", type := (.object "com/example/briareus/briareus/AttributeType"), accessFlags := 16409, slot := 4, constantValue := 0 }, { name := "L", type := (.object "com/example/briareus/briareus/AttributeType"), accessFlags := 16409, slot := 5, constantValue := 0 }, { name := "M", type := (.object "com/example/briareus/briareus/AttributeType"), accessFlags := 16409, slot := 6, constantValue := 0 }, { name := "SS", type := (.object "com/example/briareus/briareus/AttributeType"), accessFlags := 16409, slot := 7, constantValue := 0 }, { name := "NS", type := (.object "com/example/briareus/briareus/AttributeType"), accessFlags := 16409, slot := 8, constantValue := 0 }, { name := "BS", type := (.object "com/example/briareus/briareus/AttributeType"), accessFlags := 16409, slot := 9, constantValue := 0 }, { name := "BY_NAME", type := (.object "java/util/Map"), accessFlags := 26, slot := 10, constantValue := 0 }, { name := "spelledOut", type := (.object "java/lang/String"), accessFlags := 18, slot := 3, constantValue := 0 }, { name := "$VALUES", type := (.array (.object "com/example/briareus/briareus/AttributeType")), accessFlags := 4122, slot := 11, constantValue := 0 }]
  methods := #[k6m0]
  instanceTypes := #[(.object "java/lang/String"), .int, .int, (.object "java/lang/String")]
  staticTypes := #[(.object "com/example/briareus/briareus/AttributeType"), (.object "com/example/briareus/briareus/AttributeType"), (.object "com/example/briareus/briareus/AttributeType"), (.object "com/example/briareus/briareus/AttributeType"), (.object "com/example/briareus/briareus/AttributeType"), (.object "com/example/briareus/briareus/AttributeType"), (.object "com/example/briareus/briareus/AttributeType"), (.object "com/example/briareus/briareus/AttributeType"), (.object "com/example/briareus/briareus/AttributeType"), (.object "com/example/briareus/briareus/AttributeType"), (.object "java/util/Map"), (.array (.object "com/example/briareus/briareus/AttributeType"))]
  resolved := Array.replicate 133 none
  statics := some 0 }

def pool7 : Array CpInfo := pool [(1, u "java/lang/Cloneable"), (0, .class_ 1), (0, u "java/lang/Object"), (0, .class_ 3)] 3

/-- java/lang/Cloneable -/
def k7 : Class := { plain "java/lang/Cloneable" (some 0) with
  accessFlags := 1537
  interfaces := #[]
  cf := some (fileOf pool7 2 #[] #[] 1537 4 #[] #[])
  fields := #[]
  methods := #[]
  instanceTypes := #[]
  staticTypes := #[]
  resolved := Array.replicate 8 none
  statics := none }

/-- the primitive byte -/
def k8 : Class := { plain "byte" none with kind := .primitive 'B', accessFlags := 0x411 }
/-- [B -/
def k9 : Class := { plain "[B" (some 0) with kind := .array 8 .byte, interfaces := #[7, 4], accessFlags := 1041 }

/-- the primitive int -/
def k10 : Class := { plain "int" none with kind := .primitive 'I', accessFlags := 0x411 }
/-- [I -/
def k11 : Class := { plain "[I" (some 0) with kind := .array 10 .int, interfaces := #[7, 4], accessFlags := 1041 }

def heap : Heap := #[{ cls := 6, slots := #[.ref 1, .ref 2, .ref 3, .ref 4, .ref 5, .ref 6, .ref 7, .ref 8, .ref 9, .ref 10, .null, .null], vm := .statics 6 },
  { cls := 6, slots := #[.null, .int 0, .int 0, .null], vm := .none },
  { cls := 6, slots := #[.null, .int 1, .int 0, .null], vm := .none },
  { cls := 6, slots := #[.null, .int 2, .int 0, .null], vm := .none },
  { cls := 6, slots := #[.null, .int 3, .int 0, .null], vm := .none },
  { cls := 6, slots := #[.null, .int 4, .int 0, .null], vm := .none },
  { cls := 6, slots := #[.null, .int 5, .int 0, .null], vm := .none },
  { cls := 6, slots := #[.null, .int 6, .int 0, .null], vm := .none },
  { cls := 6, slots := #[.null, .int 7, .int 0, .null], vm := .none },
  { cls := 6, slots := #[.null, .int 8, .int 0, .null], vm := .none },
  { cls := 6, slots := #[.null, .int 9, .int 0, .null], vm := .none }]
def classes : Array Class := #[k0, k1, k2, k3, k4, k5, k6, k7, k8, k9, k10, k11]
def interned : List (Array UInt16 × Addr) := []
def slotsUsed : Nat := 52
def theMethod : MethodId := ⟨1, 2⟩
def args0 : Array Value := #[.int 4]
def aboutOver (below : List Frame) : State where
  vm := { classes := classes, interned := interned.toArray }
  heap := heap
  slotsUsed := slotsUsed
  threads := #[{ frames := .invoking theMethod args0 :: below }]
def below0 : List Frame := [.native { method := ⟨0, 0⟩, args := #[] }]
def about1 : State := aboutOver below0
def p0 : Program := .bare "" "" ""
def e0 : Env := launch0.env 0 0 0
theorem w_frames : about1.frames = Frame.invoking theMethod args0 :: below0 := rfl
set_option maxRecDepth 65536 in
theorem w_args : argsFit about1.vm theMethod args0 = true := by decide +kernel
set_option maxRecDepth 65536 in
theorem w_heap : heapFits about1 = true := by decide +kernel
set_option maxRecDepth 65536 in
theorem w_runnable : about1.curStatus? = some .runnable := by decide +kernel
set_option maxRecDepth 65536 in
theorem w_alone : about1.alone = true := by decide +kernel
set_option maxRecDepth 65536 in
theorem w_named : about1.methodNamed? x = some theMethod := by decide +kernel
set_option maxRecDepth 65536 in
theorem w_hears : about1.hears theMethod below0 = true := by decide +kernel
set_option maxRecDepth 65536 in
theorem w_ripe : about1.ripe theMethod args0 below0 = true := by decide +kernel
theorem w_running : about1.status = .running := rfl
set_option maxRecDepth 65536 in
theorem w_room : about1.hasRoom e0.platform room_1 = true :=
  launch0.hasRoom_least _ room_1 (by decide +kernel) (by decide +kernel) (by decide +kernel) (by decide +kernel) (by decide +kernel) (by decide +kernel)
theorem allAtoms_all (ts : List Jvm.Cond) (a : Array Jvm.Value) (st : Jvm.State) : (allAtoms ts).before a st = ts.all (fun c => c.before a st) := by
  induction ts with
  | nil => rfl
  | cons c t ih =>
    show (Jvm.Cond.and c (allAtoms t)).before a st = _
    rw [Jvm.Cond.before_and, ih, List.all_cons]
def words1 : List Jvm.Cond := Jvm.Cond.code x code maxLocals ret :: tables_1
/-- a 'code' word, met by the world's own term for the bytes: nothing is compared byte by byte -/
theorem code_word {y : MethodName} {bytes : ByteArray} {mx : Nat} {rt : Option FieldType} {a : Array Value} {s : State} {m : MethodId} {meth : Method} {c : Code} (h1 : s.methodNamed? y = some m) (h2 : s.vm.method? m = some meth) (h3 : meth.code = some c) (h4 : c.code = bytes)
    (h5 : (c.maxLocals == mx && c.exceptionTable.isEmpty && decide (c.maxStack ≤ mostOperands) && decide (meth.sig.returnType = rt) && !meth.locks && decide (parseMethodDescriptor y.desc = some meth.sig)) = true) : (Jvm.Cond.code y bytes mx rt).before a s = true := by
  simp only [Bool.and_eq_true, beq_iff_eq, Bool.not_eq_true', decide_eq_true_eq] at h5
  obtain ⟨⟨⟨⟨⟨g1, g2⟩, g3⟩, g4⟩, g5⟩, g6⟩ := h5
  simp [Cond.before, Cond.holds, Cond.value, h1, h2, h3, h4, g1, g2, g3, g4, g5, g6]
def isCode : Jvm.Cond → Bool
  | .code _ _ _ _ => true
  | _ => false
theorem all_split {L : List Jvm.Cond} {P : Jvm.Cond → Bool} (h1 : L.all (fun c => isCode c || P c) = true) (h2 : ∀ c ∈ L.filter isCode, P c = true) : L.all P = true := by
  refine List.all_eq_true.mpr fun c hc => ?_
  have h := List.all_eq_true.mp h1 c hc
  rcases Bool.eq_false_or_eq_true (isCode c) with hi | hi
  · exact h2 c (List.mem_filter.mpr ⟨hc, hi⟩)
  · simpa [hi] using h
set_option maxRecDepth 65536 in
theorem w_c0 : (Jvm.Cond.code x code maxLocals ret).before args0 about1 = true := code_word (m := ⟨1, 2⟩) (meth := k1m2) (c := k1c2) (by decide +kernel) rfl rfl rfl (by decide +kernel)
set_option maxRecDepth 65536 in
theorem w_c1 : (Jvm.Cond.code ({ cls := "com/example/briareus/briareus/AttributeTypeIsKeyTypePinLaw", name := "pick", desc := "(I)Lcom/example/briareus/briareus/AttributeType;" } : Jvm.MethodName) method_2_code (1 : Nat) (Option.some (Jvm.ClassFile.FieldType.object "com/example/briareus/briareus/AttributeType"))).before args0 about1 = true := code_word (m := ⟨1, 1⟩) (meth := k1m1) (c := k1c1) (by decide +kernel) rfl rfl rfl (by decide +kernel)
set_option maxRecDepth 65536 in
theorem w_c2 : (Jvm.Cond.code ({ cls := "com/example/briareus/briareus/AttributeType", name := "isKeyType", desc := "()Z" } : Jvm.MethodName) prog_1_method_6_code (1 : Nat) (Option.some Jvm.ClassFile.FieldType.boolean)).before args0 about1 = true := code_word (m := ⟨6, 0⟩) (meth := k6m0) (c := k6c0) (by decide +kernel) rfl rfl rfl (by decide +kernel)
def codes1 : List Jvm.Cond := [Jvm.Cond.code x code maxLocals ret, Jvm.Cond.code ({ cls := "com/example/briareus/briareus/AttributeTypeIsKeyTypePinLaw", name := "pick", desc := "(I)Lcom/example/briareus/briareus/AttributeType;" } : Jvm.MethodName) method_2_code (1 : Nat) (Option.some (Jvm.ClassFile.FieldType.object "com/example/briareus/briareus/AttributeType")), Jvm.Cond.code ({ cls := "com/example/briareus/briareus/AttributeType", name := "isKeyType", desc := "()Z" } : Jvm.MethodName) prog_1_method_6_code (1 : Nat) (Option.some Jvm.ClassFile.FieldType.boolean)]
set_option maxRecDepth 65536 in
theorem codes_eq : words1.filter isCode = codes1 := rfl
theorem w_codes : ∀ c ∈ words1.filter isCode, c.before args0 about1 = true := by
  rw [codes_eq]
  intro c hc
  simp only [codes1, List.mem_cons, List.not_mem_nil, or_false] at hc
  rcases hc with rfl | rfl | rfl
  · exact w_c0
  · exact w_c1
  · exact w_c2
set_option maxRecDepth 65536 in
theorem w_t1 : (words1.take 24).all (fun c => isCode c || c.before args0 about1) = true := by decide +kernel
set_option maxRecDepth 65536 in
theorem w_t2 : (words1.drop 24).all (fun c => isCode c || c.before args0 about1) = true := by decide +kernel
theorem w_tables : (allAtoms (Jvm.Cond.code x code maxLocals ret :: tables_1)).before args0 about1 = true := by
  rw [allAtoms_all]
  show words1.all (fun c => c.before args0 about1) = true
  refine all_split ?_ w_codes
  rw [← List.take_append_drop 24 words1, List.all_append, w_t1, w_t2]
  rfl
set_option maxRecDepth 65536 in
theorem w_case : (Jvm.Cond.and given_1 narrow_1).before args0 about1 = true := by decide +kernel
theorem w_applies : (headSpec (Jvm.Cond.code x code maxLocals ret :: tables_1) room_1).applies x e0.platform about1 = true :=
  (Spec.applies_iff w_frames).mpr ⟨w_running, w_runnable, w_alone, w_named, w_hears, w_ripe, w_room, w_tables⟩
theorem atStart : AtStart classFile x code maxLocals ret World_1 tables_1 room_1 Calls_1 rest_1 Pre_1 launch0 p0 e0 about1 theMethod args0 below0 :=
  ⟨lists_1, trivial, launch0.admits_env _ _ _, launch0.least_env, fairChoices_fair.cas, fairChoices_fair.clock, w_frames, w_args, w_heap, w_applies, trivial, trivial, w_case⟩
end start1
theorem witness_1 : WitnessClaimed_1 := ⟨start1.p0, start1.e0, start1.about1, start1.theMethod, start1.args0, start1.below0, start1.atStart⟩
end Jvm.Pilot.@@N@@
