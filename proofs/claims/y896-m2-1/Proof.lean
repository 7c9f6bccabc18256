import JvmDerived
import JvmDerived.Pilot.@@N@@Statement
import JvmDerived.Pilot.@@N@@Code
set_option linter.unusedVariables false
set_option linter.unusedSimpArgs false
namespace Jvm.Pilot.@@N@@
open Jvm Jvm.ClassFile Sem Op Lib Jvm.Free Jvm.Stand Jvm.LawKit Jvm.RoadKit Bundle Jvm.Pilot.@@N@@.Jvm.D
section Own
theorem cut {P G : Prop} (f : P → G) (g : P) : G := f g
theorem ha_ge {h0 h : Heap} {a : Addr} (q : h0.size ≤ h.size) (e : a = h.size) : h0.size ≤ a := by rw [e]; exact q
/-- what stands fixed in one invocation's walk -/
abbrev Ev : Type := Program × Launch × Env × Room × State × MethodId × Array Value × List Frame × Method × Code × Nat × (Option Value → Heap → Prop)
def Dc (bytes : ByteArray) (pc : Nat) (i : Instr) (len pc' : Nat) : Prop := decode bytes pc = .ok (i, len) ∧ pc + len = pc'
def Db (bytes : ByteArray) (pc : Nat) (i : Instr) (o : Int) (pc1 pc2 : Nat) : Prop := decode bytes pc = .ok (i, 3) ∧ pc + 3 = pc1 ∧ 0 ≤ (pc : Int) + o ∧ ((pc : Int) + o).toNat = pc2
/-- from this heap, these counts, pc, locals and stack the invocation comes to a return of which its Q holds -/
def Wk : Ev → Heap → Nat → Nat → Nat → Array Slot → List Value → Prop
  | (p, l, e, R, s, m, args, below, meth, c, n0, Q), h, kc, kn, pc, ls, st => ∀ (T : State) (locs : List Loc), Stand p l e R s m args below meth c T locs kc kn → T.heap = h → Fr n0 locs →
    ∃ s₂ o, Steps p.tables e below (T.setTop (mkF m pc ls st)) s₂ ∧ s₂.status = .running ∧ Ended s₂ below o ∧ ∃ v L, o = .returned v ∧ (Q v s₂.heap ∧ Fr n0 L) ∧ FrameEnd s o s₂ L R.cells R.slots
def Kf (p : Program) (s : State) (m : MethodId) (meth : Method) (c : Code) (y : MethodName) (bytes : ByteArray) (ml : Nat) (rt : Option FieldType) (Z : State) (n0 : Nat) : Prop :=
  p.tables.exec = Jvm.exec ∧ c.code = bytes ∧ c.maxLocals = ml ∧ meth.sig.returnType = rt ∧ meth.locks = false ∧ Z.Warmed39 s.vm ∧ s.vm.findClass y.cls = some m.cls ∧ meth.name = y.name ∧ n0 ≤ s.heap.size
def Kx (E : Ev) (y : MethodName) (bytes : ByteArray) (ml : Nat) (rt : Option FieldType) (l : Launch) (Z : State) (R : Room) (n0 : Nat) (Q : Option Value → Heap → Prop) : Prop :=
  ∃ p e s m args below meth c, E = (p, l, e, R, s, m, args, below, meth, c, n0, Q) ∧ Kf p s m meth c y bytes ml rt Z n0
/-- a callee's contract at one heap and one row of arguments -/
def Con (l : Launch) (Z : State) (y : MethodName) (bytes : ByteArray) (ml : Nat) (rt : Option FieldType) (rm : Room) (as : Array Value) (h : Heap) (n0 : Nat) (Q : Option Value → Heap → Prop) : Prop :=
  n0 ≤ h.size → ∀ ws : List Jvm.Cond, MetFree l y (head1 (Jvm.Cond.code y bytes ml rt :: ws) rm) (fun a U => a = as ∧ Z.Warmed39 U.vm ∧ U.heap = h) (fun _ _ _ _ _ => True) (fun _ U o U' => ∃ v L, o = .returned v ∧ (Q v U'.heap ∧ Fr n0 L) ∧ FrameEnd U o U' L rm.cells rm.slots)
variable {E : Ev} {y : MethodName} {bytes : ByteArray} {ml : Nat} {rt : Option FieldType} {l : Launch} {Z : State} {R : Room} {n0 : Nat} {Q : Option Value → Heap → Prop} {a0 : Array Value} {h h' : Heap} {kc kn kc' kn' pc pc' pc1 pc2 : Nat} {ls ls' : Array Slot} {st : List Value} {a b : Addr}
theorem Con.of (pn : plainFor y = true) {as : Array Value} {rm : Room} (ef : ∀ m, entryFrame m as ml = mkF m 0 ls []) (body : ∀ E : Ev, Kx E y bytes ml rt l Z rm n0 Q → Wk E h 0 0 0 ls []) : Con l Z y bytes ml rt rm as h n0 Q := by
  intro hn ws
  refine MetFree.of_bodySF pn hisR ?_
  intro p e s m args below meth c s₁ Bd hml0 hP hK
  obtain ⟨ha, hZ, hh⟩ := hP
  subst ha
  have X0 : Stand p l e rm s m args below meth c s₁ [] 0 0 := Stand.of_body Bd
  have e0 : s₁.heap = h := by rw [← hh, Bd.state]; rfl
  obtain ⟨s₂, o, q, r⟩ := body (p, l, e, rm, s, m, args, below, meth, c, n0, Q) ⟨p, e, s, m, args, below, meth, c, rfl, Bd.exec, Bd.bytes, hml0, Bd.returns, Bd.notSynchronized, hZ, findClass_of_methodNamed Bd.named, (name_of_methodNamed Bd.named Bd.method).1, by rw [hh]; exact hn⟩ s₁ [] X0 e0 (Fr.nil n0)
  exact ⟨s₂, o, castTop (ef m) q, r⟩
theorem Kx.lift {st' : List Value} (K : Kx E y bytes ml rt l Z R n0 Q) (f : ∀ (p : Program) (e : Env) (s : State) (m : MethodId) (args : Array Value) (below : List Frame) (meth : Method) (c : Code), Kf p s m meth c y bytes ml rt Z n0 → ∀ (T : State) (locs : List Loc), Stand p l e R s m args below meth c T locs kc kn → T.heap = h → ∀ t, Steps p.tables e below (T.setTop (mkF m pc' ls' st)) t → Steps p.tables e below (T.setTop (mkF m pc ls st')) t) (k : Wk E h kc kn pc' ls' st) : Wk E h kc kn pc ls st' := by
  obtain ⟨p, e, s, m, args, below, meth, c, rfl, F⟩ := K
  intro T locs X eT N
  obtain ⟨s₂, o, q, r⟩ := k T locs X eT N
  exact ⟨s₂, o, f p e s m args below meth c F T locs X eT s₂ q, r⟩
theorem Kx.move (K : Kx E y bytes ml rt l Z R n0 Q) (f : ∀ (p : Program) (e : Env) (s : State) (m : MethodId) (args : Array Value) (below : List Frame) (meth : Method) (c : Code), Kf p s m meth c y bytes ml rt Z n0 → ∀ (T : State) (locs : List Loc), Stand p l e R s m args below meth c T locs kc kn → T.heap = h → Fr n0 locs →
    ∃ (T' : State) (locs' : List Loc) (h' : Heap) (kc' kn' pc' : Nat) (ls' : Array Slot) (st' : List Value), Stand p l e R s m args below meth c T' locs' kc' kn' ∧ T'.heap = h' ∧ Fr n0 locs' ∧ h.size ≤ h'.size ∧ Wk E h' kc' kn' pc' ls' st' ∧ ∀ t, Steps p.tables e below (T'.setTop (mkF m pc' ls' st')) t → Steps p.tables e below (T.setTop (mkF m pc ls st)) t) : Wk E h kc kn pc ls st := by
  obtain ⟨p, e, s, m, args, below, meth, c, rfl, F⟩ := K
  intro T locs X eT N
  obtain ⟨T', locs', h', kc', kn', pc', ls', st', X', e', N', -, k, q'⟩ := f p e s m args below meth c F T locs X eT N
  obtain ⟨s₂, o, q, r⟩ := k T' locs' X' e' N'
  exact ⟨s₂, o, q' _ q, r⟩

theorem Kx.aloadN (K : Kx E y bytes ml rt l Z R n0 Q) {k : Fin 4} {v : Value} (hd : Dc bytes pc (.aload_n k) 1 pc') (hl : ls[k.val]? = some (.val v)) (hv : v.isRef = true) (k : Wk E h kc kn pc' ls (v :: st)) : Wk E h kc kn pc ls st := by
  obtain ⟨hd, rfl⟩ := hd
  exact K.lift (fun p e s m args below meth c F T locs X eT t q => XS.aloadN X.here F.1 rfl (hb F.2.1 hd) hl hv q) k
theorem Kx.iloadN (K : Kx E y bytes ml rt l Z R n0 Q) {k : Fin 4} {v : Int32} (hd : Dc bytes pc (.iload_n k) 1 pc') (hl : ls[k.val]? = some (.val (.int v))) (k : Wk E h kc kn pc' ls (.int v :: st)) : Wk E h kc kn pc ls st := by
  obtain ⟨hd, rfl⟩ := hd
  exact K.lift (fun p e s m args below meth c F T locs X eT t q => XS.iloadN X.here F.1 rfl (hb F.2.1 hd) hl q) k
theorem Kx.lloadN (K : Kx E y bytes ml rt l Z R n0 Q) {k : Fin 4} {v : Int64} (hd : Dc bytes pc (.lload_n k) 1 pc') (hl : ls[k.val]? = some (.val (.long v))) (k : Wk E h kc kn pc' ls (.long v :: st)) : Wk E h kc kn pc ls st := by
  obtain ⟨hd, rfl⟩ := hd
  exact K.lift (fun p e s m args below meth c F T locs X eT t q => XS.lloadN X.here F.1 rfl (hb F.2.1 hd) hl q) k
theorem Kx.istoreN (K : Kx E y bytes ml rt l Z R n0 Q) {k : Fin 4} {x : Int32} (ls' : Array Slot) (hd : Dc bytes pc (.istore_n k) 1 pc') (hl : storeLocals ls k.val (.int x) = some ls') (k : Wk E h kc kn pc' ls' st) : Wk E h kc kn pc ls (.int x :: st) := by
  obtain ⟨hd, rfl⟩ := hd
  exact K.lift (fun p e s m args below meth c F T locs X eT t q => XS.istoreN X.here F.1 rfl (hb F.2.1 hd) rfl hl q) k
theorem Kx.lstoreN (K : Kx E y bytes ml rt l Z R n0 Q) {k : Fin 4} {x : Int64} (ls' : Array Slot) (hd : Dc bytes pc (.lstore_n k) 1 pc') (hl : storeLocals ls k.val (.long x) = some ls') (k : Wk E h kc kn pc' ls' st) : Wk E h kc kn pc ls (.long x :: st) := by
  obtain ⟨hd, rfl⟩ := hd
  exact K.lift (fun p e s m args below meth c F T locs X eT t q => XS.lstoreN X.here F.1 rfl (hb F.2.1 hd) rfl hl q) k
theorem Kx.astoreN (K : Kx E y bytes ml rt l Z R n0 Q) {k : Fin 4} {x : Value} (ls' : Array Slot) (hd : Dc bytes pc (.astore_n k) 1 pc') (hv : x.isRef = true) (hl : storeLocals ls k.val x = some ls') (k : Wk E h kc kn pc' ls' st) : Wk E h kc kn pc ls (x :: st) := by
  obtain ⟨hd, rfl⟩ := hd
  exact K.lift (fun p e s m args below meth c F T locs X eT t q => XS.astoreN X.here F.1 rfl (hb F.2.1 hd) rfl hv hl q) k
theorem Kx.aload (K : Kx E y bytes ml rt l Z R n0 Q) {k : Nat} {v : Value} (hd : Dc bytes pc (.aload k) 2 pc') (hl : ls[k]? = some (.val v)) (hv : v.isRef = true) (k : Wk E h kc kn pc' ls (v :: st)) : Wk E h kc kn pc ls st := by
  obtain ⟨hd, rfl⟩ := hd
  exact K.lift (fun p e s m args below meth c F T locs X eT t q => XS.aload X.here F.1 rfl (hb F.2.1 hd) hl hv q) k
theorem Kx.iload (K : Kx E y bytes ml rt l Z R n0 Q) {k : Nat} {v : Int32} (hd : Dc bytes pc (.iload k) 2 pc') (hl : ls[k]? = some (.val (.int v))) (k : Wk E h kc kn pc' ls (.int v :: st)) : Wk E h kc kn pc ls st := by
  obtain ⟨hd, rfl⟩ := hd
  exact K.lift (fun p e s m args below meth c F T locs X eT t q => XS.iload X.here F.1 rfl (hb F.2.1 hd) hl q) k
theorem Kx.lload (K : Kx E y bytes ml rt l Z R n0 Q) {k : Nat} {v : Int64} (hd : Dc bytes pc (.lload k) 2 pc') (hl : ls[k]? = some (.val (.long v))) (k : Wk E h kc kn pc' ls (.long v :: st)) : Wk E h kc kn pc ls st := by
  obtain ⟨hd, rfl⟩ := hd
  exact K.lift (fun p e s m args below meth c F T locs X eT t q => XS.lload X.here F.1 rfl (hb F.2.1 hd) hl q) k
theorem Kx.istore (K : Kx E y bytes ml rt l Z R n0 Q) {k : Nat} {x : Int32} (ls' : Array Slot) (hd : Dc bytes pc (.istore k) 2 pc') (hl : storeLocals ls k (.int x) = some ls') (k : Wk E h kc kn pc' ls' st) : Wk E h kc kn pc ls (.int x :: st) := by
  obtain ⟨hd, rfl⟩ := hd
  exact K.lift (fun p e s m args below meth c F T locs X eT t q => XS.istore X.here F.1 rfl (hb F.2.1 hd) rfl hl q) k
theorem Kx.lstore (K : Kx E y bytes ml rt l Z R n0 Q) {k : Nat} {x : Int64} (ls' : Array Slot) (hd : Dc bytes pc (.lstore k) 2 pc') (hl : storeLocals ls k (.long x) = some ls') (k : Wk E h kc kn pc' ls' st) : Wk E h kc kn pc ls (.long x :: st) := by
  obtain ⟨hd, rfl⟩ := hd
  exact K.lift (fun p e s m args below meth c F T locs X eT t q => XS.lstore X.here F.1 rfl (hb F.2.1 hd) rfl hl q) k
theorem Kx.astore (K : Kx E y bytes ml rt l Z R n0 Q) {k : Nat} {x : Value} (ls' : Array Slot) (hd : Dc bytes pc (.astore k) 2 pc') (hv : x.isRef = true) (hl : storeLocals ls k x = some ls') (k : Wk E h kc kn pc' ls' st) : Wk E h kc kn pc ls (x :: st) := by
  obtain ⟨hd, rfl⟩ := hd
  exact K.lift (fun p e s m args below meth c F T locs X eT t q => XS.astore X.here F.1 rfl (hb F.2.1 hd) rfl hv hl q) k
theorem Kx.iinc (K : Kx E y bytes ml rt l Z R n0 Q) {k : Nat} {cst : Int} {x : Int32} (z : Int32) (ls' : Array Slot) (hd : Dc bytes pc (.iinc k cst) 3 pc') (hl : ls[k]? = some (.val (.int x))) (hz : x + Int32.ofInt cst = z) (hl' : storeLocals ls k (.int z) = some ls') (k : Wk E h kc kn pc' ls' st) : Wk E h kc kn pc ls st := by
  obtain ⟨hd, rfl⟩ := hd
  exact K.lift (fun p e s m args below meth c F T locs X eT t q => XS.iinc X.here F.1 rfl (hb F.2.1 hd) hl (by rw [hz]; exact hl') q) k
theorem Kx.iconst (K : Kx E y bytes ml rt l Z R n0 Q) {i : Int} (z : Int32) (hd : Dc bytes pc (.iconst i) 1 pc') (hz : Int32.ofInt i = z) (k : Wk E h kc kn pc' ls (.int z :: st)) : Wk E h kc kn pc ls st := by
  obtain ⟨hd, rfl⟩ := hd
  exact K.lift (fun p e s m args below meth c F T locs X eT t q => XS.iconst X.here F.1 rfl (hb F.2.1 hd) (by rw [hz]; exact q)) k
theorem Kx.lconst (K : Kx E y bytes ml rt l Z R n0 Q) {i : Fin 2} (z : Int64) (hd : Dc bytes pc (.lconst i) 1 pc') (hz : Int64.ofNat i = z) (k : Wk E h kc kn pc' ls (.long z :: st)) : Wk E h kc kn pc ls st := by
  obtain ⟨hd, rfl⟩ := hd
  exact K.lift (fun p e s m args below meth c F T locs X eT t q => XS.lconst X.here F.1 rfl (hb F.2.1 hd) (by rw [hz]; exact q)) k
theorem Kx.bipush (K : Kx E y bytes ml rt l Z R n0 Q) {i : Int} (z : Int32) (hd : Dc bytes pc (.bipush i) 2 pc') (hz : (Int8.ofInt i).toInt32 = z) (k : Wk E h kc kn pc' ls (.int z :: st)) : Wk E h kc kn pc ls st := by
  obtain ⟨hd, rfl⟩ := hd
  exact K.lift (fun p e s m args below meth c F T locs X eT t q => XS.bipush X.here F.1 rfl (hb F.2.1 hd) (by rw [hz]; exact q)) k
theorem Kx.sipush (K : Kx E y bytes ml rt l Z R n0 Q) {i : Int} (z : Int32) (hd : Dc bytes pc (.sipush i) 3 pc') (hz : (Int16.ofInt i).toInt32 = z) (k : Wk E h kc kn pc' ls (.int z :: st)) : Wk E h kc kn pc ls st := by
  obtain ⟨hd, rfl⟩ := hd
  exact K.lift (fun p e s m args below meth c F T locs X eT t q => XS.sipush X.here F.1 rfl (hb F.2.1 hd) (by rw [hz]; exact q)) k
theorem Kx.aconst_null (K : Kx E y bytes ml rt l Z R n0 Q)  (hd : Dc bytes pc .aconst_null 1 pc') (k : Wk E h kc kn pc' ls (.null :: st)) : Wk E h kc kn pc ls st := by
  obtain ⟨hd, rfl⟩ := hd
  exact K.lift (fun p e s m args below meth c F T locs X eT t q => XS.aconstNull X.here F.1 rfl (hb F.2.1 hd) q) k
theorem Kx.iadd (K : Kx E y bytes ml rt l Z R n0 Q) {x y' : Int32} (hd : Dc bytes pc .iadd 1 pc') (k : Wk E h kc kn pc' ls (.int (x + y') :: st)) : Wk E h kc kn pc ls (.int y' :: .int x :: st) := by
  obtain ⟨hd, rfl⟩ := hd
  exact K.lift (fun p e s m args below meth c F T locs X eT t q => XS.iadd X.here F.1 rfl (hb F.2.1 hd) rfl q) k
theorem Kx.isub (K : Kx E y bytes ml rt l Z R n0 Q) {x y' : Int32} (hd : Dc bytes pc .isub 1 pc') (k : Wk E h kc kn pc' ls (.int (x - y') :: st)) : Wk E h kc kn pc ls (.int y' :: .int x :: st) := by
  obtain ⟨hd, rfl⟩ := hd
  exact K.lift (fun p e s m args below meth c F T locs X eT t q => XS.isub X.here F.1 rfl (hb F.2.1 hd) rfl q) k
theorem Kx.imul (K : Kx E y bytes ml rt l Z R n0 Q) {x y' : Int32} (hd : Dc bytes pc .imul 1 pc') (k : Wk E h kc kn pc' ls (.int (x * y') :: st)) : Wk E h kc kn pc ls (.int y' :: .int x :: st) := by
  obtain ⟨hd, rfl⟩ := hd
  exact K.lift (fun p e s m args below meth c F T locs X eT t q => XS.imul X.here F.1 rfl (hb F.2.1 hd) rfl q) k
theorem Kx.iand (K : Kx E y bytes ml rt l Z R n0 Q) {x y' : Int32} (hd : Dc bytes pc .iand 1 pc') (k : Wk E h kc kn pc' ls (.int (x &&& y') :: st)) : Wk E h kc kn pc ls (.int y' :: .int x :: st) := by
  obtain ⟨hd, rfl⟩ := hd
  exact K.lift (fun p e s m args below meth c F T locs X eT t q => XS.iand X.here F.1 rfl (hb F.2.1 hd) rfl q) k
theorem Kx.ior (K : Kx E y bytes ml rt l Z R n0 Q) {x y' : Int32} (hd : Dc bytes pc .ior 1 pc') (k : Wk E h kc kn pc' ls (.int (x ||| y') :: st)) : Wk E h kc kn pc ls (.int y' :: .int x :: st) := by
  obtain ⟨hd, rfl⟩ := hd
  exact K.lift (fun p e s m args below meth c F T locs X eT t q => XS.ior X.here F.1 rfl (hb F.2.1 hd) rfl q) k
theorem Kx.ixor (K : Kx E y bytes ml rt l Z R n0 Q) {x y' : Int32} (hd : Dc bytes pc .ixor 1 pc') (k : Wk E h kc kn pc' ls (.int (x ^^^ y') :: st)) : Wk E h kc kn pc ls (.int y' :: .int x :: st) := by
  obtain ⟨hd, rfl⟩ := hd
  exact K.lift (fun p e s m args below meth c F T locs X eT t q => XS.ixor X.here F.1 rfl (hb F.2.1 hd) rfl q) k
theorem Kx.ishl (K : Kx E y bytes ml rt l Z R n0 Q) {x y' : Int32} (hd : Dc bytes pc .ishl 1 pc') (k : Wk E h kc kn pc' ls (.int (x <<< (y' &&& 31)) :: st)) : Wk E h kc kn pc ls (.int y' :: .int x :: st) := by
  obtain ⟨hd, rfl⟩ := hd
  exact K.lift (fun p e s m args below meth c F T locs X eT t q => XS.ishl X.here F.1 rfl (hb F.2.1 hd) rfl q) k
theorem Kx.ishr (K : Kx E y bytes ml rt l Z R n0 Q) {x y' : Int32} (hd : Dc bytes pc .ishr 1 pc') (k : Wk E h kc kn pc' ls (.int (x >>> (y' &&& 31)) :: st)) : Wk E h kc kn pc ls (.int y' :: .int x :: st) := by
  obtain ⟨hd, rfl⟩ := hd
  exact K.lift (fun p e s m args below meth c F T locs X eT t q => XS.ishr X.here F.1 rfl (hb F.2.1 hd) rfl q) k
theorem Kx.iushr (K : Kx E y bytes ml rt l Z R n0 Q) {x y' : Int32} (hd : Dc bytes pc .iushr 1 pc') (k : Wk E h kc kn pc' ls (.int ((x.toUInt32 >>> (y' &&& 31).toUInt32).toInt32) :: st)) : Wk E h kc kn pc ls (.int y' :: .int x :: st) := by
  obtain ⟨hd, rfl⟩ := hd
  exact K.lift (fun p e s m args below meth c F T locs X eT t q => XS.iushr X.here F.1 rfl (hb F.2.1 hd) rfl q) k
theorem Kx.ladd (K : Kx E y bytes ml rt l Z R n0 Q) {x y' : Int64} (hd : Dc bytes pc .ladd 1 pc') (k : Wk E h kc kn pc' ls (.long (x + y') :: st)) : Wk E h kc kn pc ls (.long y' :: .long x :: st) := by
  obtain ⟨hd, rfl⟩ := hd
  exact K.lift (fun p e s m args below meth c F T locs X eT t q => XS.ladd X.here F.1 rfl (hb F.2.1 hd) rfl q) k
theorem Kx.lsub (K : Kx E y bytes ml rt l Z R n0 Q) {x y' : Int64} (hd : Dc bytes pc .lsub 1 pc') (k : Wk E h kc kn pc' ls (.long (x - y') :: st)) : Wk E h kc kn pc ls (.long y' :: .long x :: st) := by
  obtain ⟨hd, rfl⟩ := hd
  exact K.lift (fun p e s m args below meth c F T locs X eT t q => XS.lsub X.here F.1 rfl (hb F.2.1 hd) rfl q) k
theorem Kx.lmul (K : Kx E y bytes ml rt l Z R n0 Q) {x y' : Int64} (hd : Dc bytes pc .lmul 1 pc') (k : Wk E h kc kn pc' ls (.long (x * y') :: st)) : Wk E h kc kn pc ls (.long y' :: .long x :: st) := by
  obtain ⟨hd, rfl⟩ := hd
  exact K.lift (fun p e s m args below meth c F T locs X eT t q => XS.lmul X.here F.1 rfl (hb F.2.1 hd) rfl q) k
theorem Kx.land (K : Kx E y bytes ml rt l Z R n0 Q) {x y' : Int64} (hd : Dc bytes pc .land 1 pc') (k : Wk E h kc kn pc' ls (.long (x &&& y') :: st)) : Wk E h kc kn pc ls (.long y' :: .long x :: st) := by
  obtain ⟨hd, rfl⟩ := hd
  exact K.lift (fun p e s m args below meth c F T locs X eT t q => XS.land X.here F.1 rfl (hb F.2.1 hd) rfl q) k
theorem Kx.lor (K : Kx E y bytes ml rt l Z R n0 Q) {x y' : Int64} (hd : Dc bytes pc .lor 1 pc') (k : Wk E h kc kn pc' ls (.long (x ||| y') :: st)) : Wk E h kc kn pc ls (.long y' :: .long x :: st) := by
  obtain ⟨hd, rfl⟩ := hd
  exact K.lift (fun p e s m args below meth c F T locs X eT t q => XS.lor X.here F.1 rfl (hb F.2.1 hd) rfl q) k
theorem Kx.lxor (K : Kx E y bytes ml rt l Z R n0 Q) {x y' : Int64} (hd : Dc bytes pc .lxor 1 pc') (k : Wk E h kc kn pc' ls (.long (x ^^^ y') :: st)) : Wk E h kc kn pc ls (.long y' :: .long x :: st) := by
  obtain ⟨hd, rfl⟩ := hd
  exact K.lift (fun p e s m args below meth c F T locs X eT t q => XS.lxor X.here F.1 rfl (hb F.2.1 hd) rfl q) k
theorem Kx.lshl (K : Kx E y bytes ml rt l Z R n0 Q) {x : Int64} {y' : Int32} (hd : Dc bytes pc .lshl 1 pc') (k : Wk E h kc kn pc' ls (.long (x <<< (y' &&& 63).toInt64) :: st)) : Wk E h kc kn pc ls (.int y' :: .long x :: st) := by
  obtain ⟨hd, rfl⟩ := hd
  exact K.lift (fun p e s m args below meth c F T locs X eT t q => XS.lshl X.here F.1 rfl (hb F.2.1 hd) rfl q) k
theorem Kx.lshr (K : Kx E y bytes ml rt l Z R n0 Q) {x : Int64} {y' : Int32} (hd : Dc bytes pc .lshr 1 pc') (k : Wk E h kc kn pc' ls (.long (x >>> (y' &&& 63).toInt64) :: st)) : Wk E h kc kn pc ls (.int y' :: .long x :: st) := by
  obtain ⟨hd, rfl⟩ := hd
  exact K.lift (fun p e s m args below meth c F T locs X eT t q => XS.lshr X.here F.1 rfl (hb F.2.1 hd) rfl q) k
theorem Kx.lushr (K : Kx E y bytes ml rt l Z R n0 Q) {x : Int64} {y' : Int32} (hd : Dc bytes pc .lushr 1 pc') (k : Wk E h kc kn pc' ls (.long ((x.toUInt64 >>> (y' &&& 63).toInt64.toUInt64).toInt64) :: st)) : Wk E h kc kn pc ls (.int y' :: .long x :: st) := by
  obtain ⟨hd, rfl⟩ := hd
  exact K.lift (fun p e s m args below meth c F T locs X eT t q => XS.lushr X.here F.1 rfl (hb F.2.1 hd) rfl q) k
theorem Kx.idiv (K : Kx E y bytes ml rt l Z R n0 Q) {x y' : Int32} (hd : Dc bytes pc .idiv 1 pc') (hy : y' ≠ 0) (k : Wk E h kc kn pc' ls (.int (x / y') :: st)) : Wk E h kc kn pc ls (.int y' :: .int x :: st) := by
  obtain ⟨hd, rfl⟩ := hd
  exact K.lift (fun p e s m args below meth c F T locs X eT t q => XS.idiv X.here F.1 rfl (hb F.2.1 hd) rfl hy q) k
theorem Kx.irem (K : Kx E y bytes ml rt l Z R n0 Q) {x y' : Int32} (hd : Dc bytes pc .irem 1 pc') (hy : y' ≠ 0) (k : Wk E h kc kn pc' ls (.int (x % y') :: st)) : Wk E h kc kn pc ls (.int y' :: .int x :: st) := by
  obtain ⟨hd, rfl⟩ := hd
  exact K.lift (fun p e s m args below meth c F T locs X eT t q => RoadKit.iremM X F.1 rfl (hb F.2.1 hd) rfl hy q) k
theorem Kx.ldiv (K : Kx E y bytes ml rt l Z R n0 Q) {x y' : Int64} (hd : Dc bytes pc .ldiv 1 pc') (hy : y' ≠ 0) (k : Wk E h kc kn pc' ls (.long (x / y') :: st)) : Wk E h kc kn pc ls (.long y' :: .long x :: st) := by
  obtain ⟨hd, rfl⟩ := hd
  exact K.lift (fun p e s m args below meth c F T locs X eT t q => XS.ldiv X.here F.1 rfl (hb F.2.1 hd) rfl hy q) k
theorem Kx.lrem (K : Kx E y bytes ml rt l Z R n0 Q) {x y' : Int64} (hd : Dc bytes pc .lrem 1 pc') (hy : y' ≠ 0) (k : Wk E h kc kn pc' ls (.long (x % y') :: st)) : Wk E h kc kn pc ls (.long y' :: .long x :: st) := by
  obtain ⟨hd, rfl⟩ := hd
  exact K.lift (fun p e s m args below meth c F T locs X eT t q => XS.lrem X.here F.1 rfl (hb F.2.1 hd) rfl hy (by rw [lrem_mod]; exact q)) k
theorem Kx.ineg (K : Kx E y bytes ml rt l Z R n0 Q) {x : Int32} (hd : Dc bytes pc .ineg 1 pc') (k : Wk E h kc kn pc' ls (.int (-x) :: st)) : Wk E h kc kn pc ls (.int x :: st) := by
  obtain ⟨hd, rfl⟩ := hd
  exact K.lift (fun p e s m args below meth c F T locs X eT t q => XS.ineg X.here F.1 rfl (hb F.2.1 hd) rfl q) k
theorem Kx.lneg (K : Kx E y bytes ml rt l Z R n0 Q) {x : Int64} (hd : Dc bytes pc .lneg 1 pc') (k : Wk E h kc kn pc' ls (.long (-x) :: st)) : Wk E h kc kn pc ls (.long x :: st) := by
  obtain ⟨hd, rfl⟩ := hd
  exact K.lift (fun p e s m args below meth c F T locs X eT t q => XS.lneg X.here F.1 rfl (hb F.2.1 hd) rfl q) k
theorem Kx.i2l (K : Kx E y bytes ml rt l Z R n0 Q) {x : Int32} (hd : Dc bytes pc .i2l 1 pc') (k : Wk E h kc kn pc' ls (.long (x.toInt64) :: st)) : Wk E h kc kn pc ls (.int x :: st) := by
  obtain ⟨hd, rfl⟩ := hd
  exact K.lift (fun p e s m args below meth c F T locs X eT t q => XS.i2l X.here F.1 rfl (hb F.2.1 hd) rfl q) k
theorem Kx.l2i (K : Kx E y bytes ml rt l Z R n0 Q) {x : Int64} (hd : Dc bytes pc .l2i 1 pc') (k : Wk E h kc kn pc' ls (.int (x.toInt32) :: st)) : Wk E h kc kn pc ls (.long x :: st) := by
  obtain ⟨hd, rfl⟩ := hd
  exact K.lift (fun p e s m args below meth c F T locs X eT t q => XS.l2i X.here F.1 rfl (hb F.2.1 hd) rfl q) k
theorem Kx.i2b (K : Kx E y bytes ml rt l Z R n0 Q) {x : Int32} (hd : Dc bytes pc .i2b 1 pc') (k : Wk E h kc kn pc' ls (.int (x.toInt8.toInt32) :: st)) : Wk E h kc kn pc ls (.int x :: st) := by
  obtain ⟨hd, rfl⟩ := hd
  exact K.lift (fun p e s m args below meth c F T locs X eT t q => XS.i2b X.here F.1 rfl (hb F.2.1 hd) rfl q) k
theorem Kx.i2c (K : Kx E y bytes ml rt l Z R n0 Q) {x : Int32} (hd : Dc bytes pc .i2c 1 pc') (k : Wk E h kc kn pc' ls (.int (x.toUInt32.toUInt16.toUInt32.toInt32) :: st)) : Wk E h kc kn pc ls (.int x :: st) := by
  obtain ⟨hd, rfl⟩ := hd
  exact K.lift (fun p e s m args below meth c F T locs X eT t q => XS.i2c X.here F.1 rfl (hb F.2.1 hd) rfl q) k
theorem Kx.i2s (K : Kx E y bytes ml rt l Z R n0 Q) {x : Int32} (hd : Dc bytes pc .i2s 1 pc') (k : Wk E h kc kn pc' ls (.int (x.toInt16.toInt32) :: st)) : Wk E h kc kn pc ls (.int x :: st) := by
  obtain ⟨hd, rfl⟩ := hd
  exact K.lift (fun p e s m args below meth c F T locs X eT t q => XS.i2s X.here F.1 rfl (hb F.2.1 hd) rfl q) k
theorem Kx.dup (K : Kx E y bytes ml rt l Z R n0 Q) {x : Value} (hd : Dc bytes pc .dup 1 pc') (hc : x.category = 1) (k : Wk E h kc kn pc' ls (x :: x :: st)) : Wk E h kc kn pc ls (x :: st) := by
  obtain ⟨hd, rfl⟩ := hd
  exact K.lift (fun p e s m args below meth c F T locs X eT t q => XS.dup X.here F.1 rfl (hb F.2.1 hd) rfl hc q) k
theorem Kx.pop (K : Kx E y bytes ml rt l Z R n0 Q) {x : Value} (hd : Dc bytes pc .pop 1 pc') (hc : x.category = 1) (k : Wk E h kc kn pc' ls st) : Wk E h kc kn pc ls (x :: st) := by
  obtain ⟨hd, rfl⟩ := hd
  exact K.lift (fun p e s m args below meth c F T locs X eT t q => XS.pop X.here F.1 rfl (hb F.2.1 hd) rfl hc q) k
theorem Kx.dup_x1 (K : Kx E y bytes ml rt l Z R n0 Q) {x x' : Value} (hd : Dc bytes pc .dup_x1 1 pc') (hc : x.category = 1) (hc' : x'.category = 1) (k : Wk E h kc kn pc' ls (x :: x' :: x :: st)) : Wk E h kc kn pc ls (x :: x' :: st) := by
  obtain ⟨hd, rfl⟩ := hd
  exact K.lift (fun p e s m args below meth c F T locs X eT t q => XS.dupX1 X.here F.1 rfl (hb F.2.1 hd) rfl hc hc' q) k
theorem Kx.dup2 (K : Kx E y bytes ml rt l Z R n0 Q) {x x' : Value} (hd : Dc bytes pc .dup2 1 pc') (hc : x.category = 1) (hc' : x'.category = 1) (k : Wk E h kc kn pc' ls (x :: x' :: x :: x' :: st)) : Wk E h kc kn pc ls (x :: x' :: st) := by
  obtain ⟨hd, rfl⟩ := hd
  exact K.lift (fun p e s m args below meth c F T locs X eT t q => Jvm.Free.XT.dup2 X.here F.1 rfl (hb F.2.1 hd) rfl hc hc' q) k
theorem Kx.ldcI (K : Kx E y bytes ml rt l Z R n0 Q) {i : Nat} {v : Int32} (hd : Dc bytes pc (.ldc i) 2 pc') (w : (Jvm.Cond.constant y.cls i v).before a0 Z = true) (k : Wk E h kc kn pc' ls (.int v :: st)) : Wk E h kc kn pc ls st := by
  obtain ⟨hd, rfl⟩ := hd
  exact K.lift (fun p e s m args below meth c F T locs X eT t q => X.ldcI F.1 F.2.2.2.2.2.2.1 (mvT F.2.2.2.2.2.1 w) rfl (hb F.2.1 hd) q) k
theorem Kx.ldc2J (K : Kx E y bytes ml rt l Z R n0 Q) {i : Nat} {v : Int64} (hd : Dc bytes pc (.ldc2_w i) 3 pc') (w : (Jvm.Cond.constantLong y.cls i v).before a0 Z = true) (k : Wk E h kc kn pc' ls (.long v :: st)) : Wk E h kc kn pc ls st := by
  obtain ⟨hd, rfl⟩ := hd
  exact K.lift (fun p e s m args below meth c F T locs X eT t q => X.ldc2J F.1 F.2.2.2.2.2.2.1 (mvT F.2.2.2.2.2.1 w) rfl (hb F.2.1 hd) q) k
theorem Kx.goto (K : Kx E y bytes ml rt l Z R n0 Q) {o : Int} (hd : Db bytes pc (.goto o) o pc1 pc2) (k : Wk E h kc kn pc2 ls st) : Wk E h kc kn pc ls st := by
  obtain ⟨hd, -, h0, h1⟩ := hd
  exact K.lift (fun p e s m args below meth c F T locs X eT t q => XS.goto X.here F.1 rfl rfl (hb F.2.1 hd) h0 h1 q) k
theorem Kx.ic_eq (K : Kx E y bytes ml rt l Z R n0 Q) {o : Int} {x y' : Int32} (hd : Db bytes pc (.if_icmp .eq o) o pc1 pc2) (k1 : x = y' → Wk E h kc kn pc2 ls st) (k2 : ¬ x = y' → Wk E h kc kn pc1 ls st) : Wk E h kc kn pc ls (.int y' :: .int x :: st) := by
  obtain ⟨hd, rfl, h0, h1⟩ := hd
  by_cases u : x = y'
  · exact K.lift (fun p e s m args below meth c F T locs X eT t q => XS.icmpYes X.here F.1 rfl rfl (hb F.2.1 hd) rfl (teq u).1 h0 h1 q) (k1 u)
  · exact K.lift (fun p e s m args below meth c F T locs X eT t q => XS.icmpNo X.here F.1 rfl (hb F.2.1 hd) rfl (feq u).1 q) (k2 u)
theorem Kx.if_eq (K : Kx E y bytes ml rt l Z R n0 Q) {o : Int} {x : Int32} (hd : Db bytes pc (.ifCond .eq o) o pc1 pc2) (k1 : x = 0 → Wk E h kc kn pc2 ls st) (k2 : ¬ x = 0 → Wk E h kc kn pc1 ls st) : Wk E h kc kn pc ls (.int x :: st) := by
  obtain ⟨hd, rfl, h0, h1⟩ := hd
  by_cases u : x = 0
  · exact K.lift (fun p e s m args below meth c F T locs X eT t q => XS.ifYes X.here F.1 rfl rfl (hb F.2.1 hd) rfl ((if0 _ _).trans (teq u).1) h0 h1 q) (k1 u)
  · exact K.lift (fun p e s m args below meth c F T locs X eT t q => XS.ifNo X.here F.1 rfl (hb F.2.1 hd) rfl ((if0 _ _).trans (feq u).1) q) (k2 u)
theorem Kx.ic_ne (K : Kx E y bytes ml rt l Z R n0 Q) {o : Int} {x y' : Int32} (hd : Db bytes pc (.if_icmp .ne o) o pc1 pc2) (k1 : x = y' → Wk E h kc kn pc1 ls st) (k2 : ¬ x = y' → Wk E h kc kn pc2 ls st) : Wk E h kc kn pc ls (.int y' :: .int x :: st) := by
  obtain ⟨hd, rfl, h0, h1⟩ := hd
  by_cases u : x = y'
  · exact K.lift (fun p e s m args below meth c F T locs X eT t q => XS.icmpNo X.here F.1 rfl (hb F.2.1 hd) rfl (teq u).2 q) (k1 u)
  · exact K.lift (fun p e s m args below meth c F T locs X eT t q => XS.icmpYes X.here F.1 rfl rfl (hb F.2.1 hd) rfl (feq u).2 h0 h1 q) (k2 u)
theorem Kx.if_ne (K : Kx E y bytes ml rt l Z R n0 Q) {o : Int} {x : Int32} (hd : Db bytes pc (.ifCond .ne o) o pc1 pc2) (k1 : x = 0 → Wk E h kc kn pc1 ls st) (k2 : ¬ x = 0 → Wk E h kc kn pc2 ls st) : Wk E h kc kn pc ls (.int x :: st) := by
  obtain ⟨hd, rfl, h0, h1⟩ := hd
  by_cases u : x = 0
  · exact K.lift (fun p e s m args below meth c F T locs X eT t q => XS.ifNo X.here F.1 rfl (hb F.2.1 hd) rfl ((if0 _ _).trans (teq u).2) q) (k1 u)
  · exact K.lift (fun p e s m args below meth c F T locs X eT t q => XS.ifYes X.here F.1 rfl rfl (hb F.2.1 hd) rfl ((if0 _ _).trans (feq u).2) h0 h1 q) (k2 u)
theorem Kx.ic_lt (K : Kx E y bytes ml rt l Z R n0 Q) {o : Int} {x y' : Int32} (hd : Db bytes pc (.if_icmp .lt o) o pc1 pc2) (k1 : x < y' → Wk E h kc kn pc2 ls st) (k2 : ¬ x < y' → Wk E h kc kn pc1 ls st) : Wk E h kc kn pc ls (.int y' :: .int x :: st) := by
  obtain ⟨hd, rfl, h0, h1⟩ := hd
  by_cases u : x < y'
  · exact K.lift (fun p e s m args below meth c F T locs X eT t q => XS.icmpYes X.here F.1 rfl rfl (hb F.2.1 hd) rfl (tlt u).1 h0 h1 q) (k1 u)
  · exact K.lift (fun p e s m args below meth c F T locs X eT t q => XS.icmpNo X.here F.1 rfl (hb F.2.1 hd) rfl (flt u).1 q) (k2 u)
theorem Kx.if_lt (K : Kx E y bytes ml rt l Z R n0 Q) {o : Int} {x : Int32} (hd : Db bytes pc (.ifCond .lt o) o pc1 pc2) (k1 : x < 0 → Wk E h kc kn pc2 ls st) (k2 : ¬ x < 0 → Wk E h kc kn pc1 ls st) : Wk E h kc kn pc ls (.int x :: st) := by
  obtain ⟨hd, rfl, h0, h1⟩ := hd
  by_cases u : x < 0
  · exact K.lift (fun p e s m args below meth c F T locs X eT t q => XS.ifYes X.here F.1 rfl rfl (hb F.2.1 hd) rfl ((if0 _ _).trans (tlt u).1) h0 h1 q) (k1 u)
  · exact K.lift (fun p e s m args below meth c F T locs X eT t q => XS.ifNo X.here F.1 rfl (hb F.2.1 hd) rfl ((if0 _ _).trans (flt u).1) q) (k2 u)
theorem Kx.ic_ge (K : Kx E y bytes ml rt l Z R n0 Q) {o : Int} {x y' : Int32} (hd : Db bytes pc (.if_icmp .ge o) o pc1 pc2) (k1 : x < y' → Wk E h kc kn pc1 ls st) (k2 : ¬ x < y' → Wk E h kc kn pc2 ls st) : Wk E h kc kn pc ls (.int y' :: .int x :: st) := by
  obtain ⟨hd, rfl, h0, h1⟩ := hd
  by_cases u : x < y'
  · exact K.lift (fun p e s m args below meth c F T locs X eT t q => XS.icmpNo X.here F.1 rfl (hb F.2.1 hd) rfl (tlt u).2.1 q) (k1 u)
  · exact K.lift (fun p e s m args below meth c F T locs X eT t q => XS.icmpYes X.here F.1 rfl rfl (hb F.2.1 hd) rfl (flt u).2.1 h0 h1 q) (k2 u)
theorem Kx.if_ge (K : Kx E y bytes ml rt l Z R n0 Q) {o : Int} {x : Int32} (hd : Db bytes pc (.ifCond .ge o) o pc1 pc2) (k1 : x < 0 → Wk E h kc kn pc1 ls st) (k2 : ¬ x < 0 → Wk E h kc kn pc2 ls st) : Wk E h kc kn pc ls (.int x :: st) := by
  obtain ⟨hd, rfl, h0, h1⟩ := hd
  by_cases u : x < 0
  · exact K.lift (fun p e s m args below meth c F T locs X eT t q => XS.ifNo X.here F.1 rfl (hb F.2.1 hd) rfl ((if0 _ _).trans (tlt u).2.1) q) (k1 u)
  · exact K.lift (fun p e s m args below meth c F T locs X eT t q => XS.ifYes X.here F.1 rfl rfl (hb F.2.1 hd) rfl ((if0 _ _).trans (flt u).2.1) h0 h1 q) (k2 u)
theorem Kx.ic_gt (K : Kx E y bytes ml rt l Z R n0 Q) {o : Int} {x y' : Int32} (hd : Db bytes pc (.if_icmp .gt o) o pc1 pc2) (k1 : y' < x → Wk E h kc kn pc2 ls st) (k2 : ¬ y' < x → Wk E h kc kn pc1 ls st) : Wk E h kc kn pc ls (.int y' :: .int x :: st) := by
  obtain ⟨hd, rfl, h0, h1⟩ := hd
  by_cases u : y' < x
  · exact K.lift (fun p e s m args below meth c F T locs X eT t q => XS.icmpYes X.here F.1 rfl rfl (hb F.2.1 hd) rfl (tlt u).2.2.1 h0 h1 q) (k1 u)
  · exact K.lift (fun p e s m args below meth c F T locs X eT t q => XS.icmpNo X.here F.1 rfl (hb F.2.1 hd) rfl (flt u).2.2.1 q) (k2 u)
theorem Kx.if_gt (K : Kx E y bytes ml rt l Z R n0 Q) {o : Int} {x : Int32} (hd : Db bytes pc (.ifCond .gt o) o pc1 pc2) (k1 : 0 < x → Wk E h kc kn pc2 ls st) (k2 : ¬ 0 < x → Wk E h kc kn pc1 ls st) : Wk E h kc kn pc ls (.int x :: st) := by
  obtain ⟨hd, rfl, h0, h1⟩ := hd
  by_cases u : 0 < x
  · exact K.lift (fun p e s m args below meth c F T locs X eT t q => XS.ifYes X.here F.1 rfl rfl (hb F.2.1 hd) rfl ((if0 _ _).trans (tlt u).2.2.1) h0 h1 q) (k1 u)
  · exact K.lift (fun p e s m args below meth c F T locs X eT t q => XS.ifNo X.here F.1 rfl (hb F.2.1 hd) rfl ((if0 _ _).trans (flt u).2.2.1) q) (k2 u)
theorem Kx.ic_le (K : Kx E y bytes ml rt l Z R n0 Q) {o : Int} {x y' : Int32} (hd : Db bytes pc (.if_icmp .le o) o pc1 pc2) (k1 : y' < x → Wk E h kc kn pc1 ls st) (k2 : ¬ y' < x → Wk E h kc kn pc2 ls st) : Wk E h kc kn pc ls (.int y' :: .int x :: st) := by
  obtain ⟨hd, rfl, h0, h1⟩ := hd
  by_cases u : y' < x
  · exact K.lift (fun p e s m args below meth c F T locs X eT t q => XS.icmpNo X.here F.1 rfl (hb F.2.1 hd) rfl (tlt u).2.2.2 q) (k1 u)
  · exact K.lift (fun p e s m args below meth c F T locs X eT t q => XS.icmpYes X.here F.1 rfl rfl (hb F.2.1 hd) rfl (flt u).2.2.2 h0 h1 q) (k2 u)
theorem Kx.if_le (K : Kx E y bytes ml rt l Z R n0 Q) {o : Int} {x : Int32} (hd : Db bytes pc (.ifCond .le o) o pc1 pc2) (k1 : 0 < x → Wk E h kc kn pc1 ls st) (k2 : ¬ 0 < x → Wk E h kc kn pc2 ls st) : Wk E h kc kn pc ls (.int x :: st) := by
  obtain ⟨hd, rfl, h0, h1⟩ := hd
  by_cases u : 0 < x
  · exact K.lift (fun p e s m args below meth c F T locs X eT t q => XS.ifNo X.here F.1 rfl (hb F.2.1 hd) rfl ((if0 _ _).trans (tlt u).2.2.2) q) (k1 u)
  · exact K.lift (fun p e s m args below meth c F T locs X eT t q => XS.ifYes X.here F.1 rfl rfl (hb F.2.1 hd) rfl ((if0 _ _).trans (flt u).2.2.2) h0 h1 q) (k2 u)
theorem Kx.lcmp (K : Kx E y bytes ml rt l Z R n0 Q) {x y' : Int64} (hd : Dc bytes pc .lcmp 1 pc') (k : Wk E h kc kn pc' ls (.int (lcmpW x y') :: st)) : Wk E h kc kn pc ls (.long y' :: .long x :: st) := by
  obtain ⟨hd, rfl⟩ := hd
  exact K.lift (fun p e s m args below meth c F T locs X eT t q => XS.lcmp X.here F.1 rfl (hb F.2.1 hd) rfl q) k
theorem Kx.lc_eq (K : Kx E y bytes ml rt l Z R n0 Q) {o : Int} {x y' : Int64} {pcm : Nat} (hd0 : Dc bytes pc .lcmp 1 pcm) (hd : Db bytes pcm (.ifCond .eq o) o pc1 pc2) (k1 : x = y' → Wk E h kc kn pc2 ls st) (k2 : ¬ x = y' → Wk E h kc kn pc1 ls st) : Wk E h kc kn pc ls (.long y' :: .long x :: st) :=
  K.lcmp hd0 (K.if_eq hd (fun u => k1 ((lw_eq x y').mp u)) (fun u => k2 (fun v => u ((lw_eq x y').mpr v))))
theorem Kx.lc_ne (K : Kx E y bytes ml rt l Z R n0 Q) {o : Int} {x y' : Int64} {pcm : Nat} (hd0 : Dc bytes pc .lcmp 1 pcm) (hd : Db bytes pcm (.ifCond .ne o) o pc1 pc2) (k1 : x = y' → Wk E h kc kn pc1 ls st) (k2 : ¬ x = y' → Wk E h kc kn pc2 ls st) : Wk E h kc kn pc ls (.long y' :: .long x :: st) :=
  K.lcmp hd0 (K.if_ne hd (fun u => k1 ((lw_eq x y').mp u)) (fun u => k2 (fun v => u ((lw_eq x y').mpr v))))
theorem Kx.lc_lt (K : Kx E y bytes ml rt l Z R n0 Q) {o : Int} {x y' : Int64} {pcm : Nat} (hd0 : Dc bytes pc .lcmp 1 pcm) (hd : Db bytes pcm (.ifCond .lt o) o pc1 pc2) (k1 : x < y' → Wk E h kc kn pc2 ls st) (k2 : ¬ x < y' → Wk E h kc kn pc1 ls st) : Wk E h kc kn pc ls (.long y' :: .long x :: st) :=
  K.lcmp hd0 (K.if_lt hd (fun u => k1 ((lw_lt x y').mp u)) (fun u => k2 (fun v => u ((lw_lt x y').mpr v))))
theorem Kx.lc_ge (K : Kx E y bytes ml rt l Z R n0 Q) {o : Int} {x y' : Int64} {pcm : Nat} (hd0 : Dc bytes pc .lcmp 1 pcm) (hd : Db bytes pcm (.ifCond .ge o) o pc1 pc2) (k1 : x < y' → Wk E h kc kn pc1 ls st) (k2 : ¬ x < y' → Wk E h kc kn pc2 ls st) : Wk E h kc kn pc ls (.long y' :: .long x :: st) :=
  K.lcmp hd0 (K.if_ge hd (fun u => k1 ((lw_lt x y').mp u)) (fun u => k2 (fun v => u ((lw_lt x y').mpr v))))
theorem Kx.lc_gt (K : Kx E y bytes ml rt l Z R n0 Q) {o : Int} {x y' : Int64} {pcm : Nat} (hd0 : Dc bytes pc .lcmp 1 pcm) (hd : Db bytes pcm (.ifCond .gt o) o pc1 pc2) (k1 : y' < x → Wk E h kc kn pc2 ls st) (k2 : ¬ y' < x → Wk E h kc kn pc1 ls st) : Wk E h kc kn pc ls (.long y' :: .long x :: st) :=
  K.lcmp hd0 (K.if_gt hd (fun u => k1 ((lw_gt x y').mp u)) (fun u => k2 (fun v => u ((lw_gt x y').mpr v))))
theorem Kx.lc_le (K : Kx E y bytes ml rt l Z R n0 Q) {o : Int} {x y' : Int64} {pcm : Nat} (hd0 : Dc bytes pc .lcmp 1 pcm) (hd : Db bytes pcm (.ifCond .le o) o pc1 pc2) (k1 : y' < x → Wk E h kc kn pc1 ls st) (k2 : ¬ y' < x → Wk E h kc kn pc2 ls st) : Wk E h kc kn pc ls (.long y' :: .long x :: st) :=
  K.lcmp hd0 (K.if_le hd (fun u => k1 ((lw_gt x y').mp u)) (fun u => k2 (fun v => u ((lw_gt x y').mpr v))))
theorem Kx.ifnull_null (K : Kx E y bytes ml rt l Z R n0 Q) {o : Int} (hd : Db bytes pc (.ifnull o) o pc1 pc2) (k : Wk E h kc kn pc2 ls st) : Wk E h kc kn pc ls (.null :: st) := by
  obtain ⟨hd, -, h0, h1⟩ := hd
  exact K.lift (fun p e s m args below meth c F T locs X eT t q => XS.ifnullYes X.here F.1 rfl rfl (hb F.2.1 hd) rfl h0 h1 q) k
theorem Kx.ifnull_ref (K : Kx E y bytes ml rt l Z R n0 Q) {o : Int} (hd : Db bytes pc (.ifnull o) o pc1 pc2) (k : Wk E h kc kn pc1 ls st) : Wk E h kc kn pc ls (.ref a :: st) := by
  obtain ⟨hd, rfl, h0, h1⟩ := hd
  exact K.lift (fun p e s m args below meth c F T locs X eT t q => XS.ifnullNo X.here F.1 rfl (hb F.2.1 hd) rfl q) k
theorem Kx.ifnonnull_ref (K : Kx E y bytes ml rt l Z R n0 Q) {o : Int} (hd : Db bytes pc (.ifnonnull o) o pc1 pc2) (k : Wk E h kc kn pc2 ls st) : Wk E h kc kn pc ls (.ref a :: st) := by
  obtain ⟨hd, -, h0, h1⟩ := hd
  exact K.lift (fun p e s m args below meth c F T locs X eT t q => XS.ifnonnullYes X.here F.1 rfl rfl (hb F.2.1 hd) rfl h0 h1 q) k
theorem Kx.ifnonnull_null (K : Kx E y bytes ml rt l Z R n0 Q) {o : Int} (hd : Db bytes pc (.ifnonnull o) o pc1 pc2) (k : Wk E h kc kn pc1 ls st) : Wk E h kc kn pc ls (.null :: st) := by
  obtain ⟨hd, rfl, h0, h1⟩ := hd
  exact K.lift (fun p e s m args below meth c F T locs X eT t q => XS.ifnonnullNo X.here F.1 rfl (hb F.2.1 hd) rfl q) k
theorem Kx.ldcF (K : Kx E y bytes ml rt l Z R n0 Q) {i : Nat} {v : UInt32} (hd : Dc bytes pc (.ldc i) 2 pc') (w : (Jvm.Cond.constantFloat y.cls i v).before a0 Z = true) (k : Wk E h kc kn pc' ls (.float v :: st)) : Wk E h kc kn pc ls st := by
  obtain ⟨hd, rfl⟩ := hd
  exact K.lift (fun p e s m args below meth c F T locs X eT t q => X.ldcFloatC F.1 F.2.2.2.2.2.2.1 (mvT F.2.2.2.2.2.1 w) (g := mkF m pc ls st) rfl (hb F.2.1 hd) t q) k
/-- an array: its kind, its length, what each place holds -/
def Ia (Z : State) (h : Heap) (a : Addr) (ty : FieldType) (N : Int32) (f : Int32 → Value) : Prop := ∃ c : Cell, Arr Z h a c ty ∧ c.slots.size = N.toNatClampNeg ∧ ¬ N < 0 ∧ ∀ j : Int32, ¬ j < 0 → j < N → c.slots[j.toNatClampNeg]? = some (f j)
theorem Ia.lt {ty : FieldType} {N : Int32} {f : Int32 → Value} (F : Ia Z h a ty N f) : a < h.size := by obtain ⟨c, A, -⟩ := F; exact A.lt
theorem Ia.nn {ty : FieldType} {N : Int32} {f : Int32 → Value} (F : Ia Z h a ty N f) : ¬ N < 0 := by obtain ⟨c, -, -, q, -⟩ := F; exact q
theorem Ia.ext {ty : FieldType} {N : Int32} {f : Int32 → Value} (F : Ia Z h a ty N f) (X : Ext h h') : Ia Z h' a ty N f := by obtain ⟨c, A, r⟩ := F; exact ⟨c, A.ext X, r⟩
theorem Ia.other {ty : FieldType} {N : Int32} {f : Int32 → Value} {sl : Nat} {v : Value} (F : Ia Z h b ty N f) (W : Wr h h' a sl v) (q : b ≠ a) : Ia Z h' b ty N f := by obtain ⟨c, A, r⟩ := F; exact ⟨c, A.other W q, r⟩
theorem Ia.keep {ty : FieldType} {N : Int32} {f : Int32 → Value} {ws : List Addr} (F : Ia Z h a ty N f) (K : Keep h h' ws) (q : a ∉ ws) : Ia Z h' a ty N f := by obtain ⟨c, A, r⟩ := F; exact ⟨c, ⟨K.2.1 a c A.1 q, A.2⟩, r⟩
theorem Ia.congr {ty : FieldType} {N : Int32} {f g : Int32 → Value} (F : Ia Z h a ty N f) (q : ∀ j : Int32, ¬ j < 0 → j < N → f j = g j) : Ia Z h a ty N g := by
  obtain ⟨c, A, r1, r2, r3⟩ := F
  exact ⟨c, A, r1, r2, fun j h1 h2 => by rw [r3 j h1 h2, q j h1 h2]⟩
theorem Ia.set {ty : FieldType} {N j : Int32} {f : Int32 → Value} {v : Value} (F : Ia Z h a ty N f) (W : Wr h h' a j.toNatClampNeg v) (hj : ¬ j < 0) : Ia Z h' a ty N (fun k => if k = j then v else f k) := by
  obtain ⟨c, A, S, M, G⟩ := F
  refine ⟨_, A.same W, by rw [sz_set]; exact S, M, fun k h1 h2 => ?_⟩
  show _ = some (if k = j then v else f k)
  by_cases u : k = j
  · rw [if_pos u]; exact get_hit (inb_of S (u ▸ ⟨h1, h2⟩)) u
  · rw [if_neg u, get_miss hj h1 u]; exact G k h1 h2
theorem Ia.new {ty : FieldType} {N : Int32} {k : ClassId} (A : Arr Z h a (newA k ty N) ty) (q : ¬ N < 0) : Ia Z h a ty N (fun _ => defaultValue ty) :=
  ⟨_, A, sz_new _ _ _, q, fun j h1 h2 => get_new (by have := inb_of (sz_new k ty N) ⟨h1, h2⟩; rw [sz_new] at this; exact this)⟩
theorem Kx.getF (K : Kx E y bytes ml rt l Z R n0 Q) {i : Nat} {O n d : String} {v : Value} (hd : Dc bytes pc (.getfield i) 3 pc') (w : (Jvm.Cond.fieldLink y.cls i O n d).before a0 Z = true) (F : Fld Z h a O n d v) (k : Wk E h kc kn pc' ls (v :: st)) : Wk E h kc kn pc ls (.ref a :: st) := by
  obtain ⟨hd, rfl⟩ := hd
  refine K.move (fun p e s m args below meth c G T locs X eT N => ?_)
  obtain ⟨g1, g2, g3, g4, g5, hZ, hown, g8, g9⟩ := G
  have hn : n0 ≤ h.size := by rw [← eT]; exact Nat.le_trans g9 X.same.2.1
  obtain ⟨T', X', e', q'⟩ := RoadKit.getF X g1 hZ hown (host := "") (Or.inl w) Via.refl eT F (g := mkF m pc ls (.ref a :: st)) rfl rfl (hb g2 hd)
  exact ⟨T', _, _, _, _, _, _, _, X', e', N, (Nat.le_refl _), k, fun t q => q' t q⟩
theorem Kx.putF (K : Kx E y bytes ml rt l Z R n0 Q) {i kk : Nat} {O n d C : String} {ty : FieldType} {v old : Value} (hd : Dc bytes pc (.putfield i) 3 pc') (w : (Jvm.Cond.fieldLink y.cls i O n d).before a0 Z = true) (F : Fld Z h a O n d old) (X0 : Exa Z h a C)
    (L : (Jvm.Cond.lays C O n d).before a0 Z = true ∨ ((Jvm.Cond.laysFinal C O n d).before a0 Z = true ∧ y.cls = O ∧ y.name = "<init>")) (wi : (Jvm.Cond.instantiable C kk).before a0 Z = true) (ht : parseFieldDescriptor d = some ty) (hna : narrow ty v = v) (hf : fits ty v = true) (ge : n0 ≤ a)
    (k : ∀ h', Wr h h' a (RoadKit.slotOf Z O n d) v → Wk E h' kc kn pc' ls st) : Wk E h kc kn pc ls (v :: .ref a :: st) := by
  obtain ⟨hd, rfl⟩ := hd
  refine K.move (fun p e s m args below meth c G T locs X eT N => ?_)
  obtain ⟨g1, g2, g3, g4, g5, hZ, hown, g8, g9⟩ := G
  have hn : n0 ≤ h.size := by rw [← eT]; exact Nat.le_trans g9 X.same.2.1
  obtain ⟨T', h', X', e', W, q'⟩ := RoadKit.putF X g1 hZ hown (host := "") (Or.inl w) Via.refl eT F X0 (L.imp id fun u => ⟨u.1, u.2.1, g8.trans u.2.2⟩) wi ht hna hf (g := mkF m pc ls (v :: .ref a :: st)) rfl rfl (hb g2 hd)
  exact ⟨T', _, _, _, _, _, _, _, X', e', (Fr.snoc X' N ge), (Nat.le_of_eq W.size.symm), k h' W, fun t q => q' t q⟩
theorem Kx.newO (K : Kx E y bytes ml rt l Z R n0 Q) {i sz : Nat} {C : String} (kc' kn' : Nat) (hd : Dc bytes pc (.new i) 3 pc') (w : (Jvm.Cond.classLink y.cls i C).before a0 Z = true) (wi : (Jvm.Cond.instantiable C sz).before a0 Z = true) (wz : (Jvm.Cond.initialized C).before a0 Z = true)
    (hk : kc + 1 = kc') (hk2 : kn + sz = kn') (hc : kc' ≤ R.cells) (hl : kn' ≤ R.slots)
    (k : ∀ h' a, a = h.size → n0 ≤ a → Ext h h' → Exa Z h' a C → (∀ {O nm d : String} {ty : FieldType}, Laid Z a0 C O nm d → parseFieldDescriptor d = some ty → Fld Z h' a O nm d (defaultValue ty)) → Wk E h' kc' kn' pc' ls (.ref a :: st)) : Wk E h kc kn pc ls st := by
  obtain ⟨hd, rfl⟩ := hd
  refine K.move (fun p e s m args below meth c G T locs X eT N => ?_)
  obtain ⟨g1, g2, g3, g4, g5, hZ, hown, g8, g9⟩ := G
  have hn : n0 ≤ h.size := by rw [← eT]; exact Nat.le_trans g9 X.same.2.1
  subst hk hk2
  obtain ⟨T', h', X', e', E', A', D', -, q'⟩ := RoadKit.newO X g1 hZ hown w wi wz eT (g := mkF m pc ls st) rfl (hb g2 hd) hc hl
  exact ⟨T', _, _, _, _, _, _, _, X', e', N, E'.1, k h' h.size rfl hn E' A' D', fun t q => q' t q⟩
theorem Kx.newP (K : Kx E y bytes ml rt l Z R n0 Q) {aty : ArrayType} {N : Int32} {ty : FieldType} {dv : Value} (cap kc' kn' : Nat) (hd : Dc bytes pc (.newarray aty) 2 pc') (w : (Jvm.Cond.arrayClass ty).before a0 Z = true) (hty : newarray.typeOf aty = ty) (hdv : defaultValue ty = dv) (hN : ¬ N < 0) (hcap : N.toNatClampNeg ≤ cap) (h8 : cap * 8 ≤ 536870912)
    (hk : kc + 1 = kc') (hk2 : kn + cap = kn') (hc : kc' ≤ R.cells) (hl : kn' ≤ R.slots)
    (k : ∀ h' a, a = h.size → n0 ≤ a → Ext h h' → Ia Z h' a ty N (fun _ => dv) → Wk E h' kc' kn' pc' ls (.ref a :: st)) : Wk E h kc kn pc ls (.int N :: st) := by
  obtain ⟨hd, rfl⟩ := hd
  refine K.move (fun p e s m args below meth c G T locs X eT N' => ?_)
  obtain ⟨g1, g2, g3, g4, g5, hZ, hown, g8, g9⟩ := G
  have hn : n0 ≤ h.size := by rw [← eT]; exact Nat.le_trans g9 X.same.2.1
  subst hk hk2 hty hdv
  obtain ⟨T', h', cA, X', e', E', A', q'⟩ := RoadKit.newP X g1 hZ w eT (g := mkF m pc ls (.int N :: st)) rfl (hb g2 hd) rfl hN hcap h8 hc hl
  exact ⟨T', _, _, _, _, _, _, _, X', e', N', E'.1, k h' h.size rfl hn E' (Ia.new A' hN), fun t q => q' t q⟩
theorem Kx.newR (K : Kx E y bytes ml rt l Z R n0 Q) {i : Nat} {N : Int32} {C : String} (cap kc' kn' : Nat) (hd : Dc bytes pc (.anewarray i) 3 pc') (w1 : (Jvm.Cond.classLink y.cls i C).before a0 Z = true) (w2 : (Jvm.Cond.arrayOver (.object C)).before a0 Z = true) (hN : ¬ N < 0) (hcap : N.toNatClampNeg ≤ cap) (h8 : cap * 8 ≤ 536870912)
    (hk : kc + 1 = kc') (hk2 : kn + cap = kn') (hc : kc' ≤ R.cells) (hl : kn' ≤ R.slots)
    (k : ∀ h' a, a = h.size → n0 ≤ a → Ext h h' → Ia Z h' a (.object C) N (fun _ => .null) → Wk E h' kc' kn' pc' ls (.ref a :: st)) : Wk E h kc kn pc ls (.int N :: st) := by
  obtain ⟨hd, rfl⟩ := hd
  refine K.move (fun p e s m args below meth c G T locs X eT N' => ?_)
  obtain ⟨g1, g2, g3, g4, g5, hZ, hown, g8, g9⟩ := G
  have hn : n0 ≤ h.size := by rw [← eT]; exact Nat.le_trans g9 X.same.2.1
  subst hk hk2
  obtain ⟨T', h', cA, X', e', E', A', O', q'⟩ := RoadKit.newR X g1 hZ hown w1 w2 eT (g := mkF m pc ls (.int N :: st)) rfl (hb g2 hd) rfl hN hcap h8 hc hl
  exact ⟨T', _, _, _, _, _, _, _, X', e', N', E'.1, k h' h.size rfl hn E' (Ia.new A' hN), fun t q => q' t q⟩
theorem Kx.newRA (K : Kx E y bytes ml rt l Z R n0 Q) {i : Nat} {N : Int32} {C : String} {ty : FieldType} (cap kc' kn' : Nat) (hd : Dc bytes pc (.anewarray i) 3 pc') (hC : (FieldType.array ty).toString = C) (w1 : (Jvm.Cond.classLink y.cls i C).before a0 Z = true) (w2 : (Jvm.Cond.arrayOver (.array ty)).before a0 Z = true) (hN : ¬ N < 0) (hcap : N.toNatClampNeg ≤ cap) (h8 : cap * 8 ≤ 536870912)
    (hk : kc + 1 = kc') (hk2 : kn + cap = kn') (hc : kc' ≤ R.cells) (hl : kn' ≤ R.slots)
    (k : ∀ h' a, a = h.size → n0 ≤ a → Ext h h' → Ia Z h' a (.array ty) N (fun _ => .null) → Wk E h' kc' kn' pc' ls (.ref a :: st)) : Wk E h kc kn pc ls (.int N :: st) := by
  obtain ⟨hd, rfl⟩ := hd
  refine K.move (fun p e s m args below meth c G T locs X eT N' => ?_)
  obtain ⟨g1, g2, g3, g4, g5, hZ, hown, g8, g9⟩ := G
  have hn : n0 ≤ h.size := by rw [← eT]; exact Nat.le_trans g9 X.same.2.1
  subst hk hk2
  obtain ⟨T', h', cA, X', e', E', A', -, O', q'⟩ := RoadKit.newRA X g1 hZ hown hC w1 w2 eT (g := mkF m pc ls (.int N :: st)) rfl (hb g2 hd) rfl hN hcap h8 hc hl rfl
  exact ⟨T', _, _, _, _, _, _, _, X', e', N', E'.1, k h' h.size rfl hn E' (Ia.new A' hN), fun t q => q' t q⟩
theorem Kx.arraylength (K : Kx E y bytes ml rt l Z R n0 Q) {ty : FieldType} {N : Int32} {f : Int32 → Value} (hd : Dc bytes pc .arraylength 1 pc') (A : Ia Z h a ty N f) (k : Wk E h kc kn pc' ls (.int N :: st)) : Wk E h kc kn pc ls (.ref a :: st) := by
  obtain ⟨hd, rfl⟩ := hd
  obtain ⟨cl, A, S, M, G⟩ := A
  refine K.lift (fun p e s m args below meth c F T locs X eT t q => ?_) k
  exact X.arraylength F.1 (by rw [eT]; exact A.1) (State.isArrayOf_alike F.2.2.2.2.2.1.alike A.2.1) (g := mkF m pc ls (.ref a :: st)) rfl rfl (hb F.2.1 hd) t (by rw [len_of S M]; exact q)
theorem Kx.iaload (K : Kx E y bytes ml rt l Z R n0 Q) {N j : Int32} {f : Int32 → Value} {v : Value} (hd : Dc bytes pc .iaload 1 pc') (A : Ia Z h a .int N f) (h1 : ¬ j < 0) (h2 : j < N) (hv : f j = v) (k : Wk E h kc kn pc' ls (v :: st)) : Wk E h kc kn pc ls (.int j :: .ref a :: st) := by
  obtain ⟨hd, rfl⟩ := hd
  obtain ⟨cl, A, S, M, G⟩ := A
  refine K.lift (fun p e s m args below meth c F T locs X eT t q => ?_) k
  exact X.iaload F.1 (by rw [eT]; exact A.1) (State.isArrayOf_alike F.2.2.2.2.2.1.alike A.2.1) A.2.2 (inb_of S ⟨h1, h2⟩) (hv ▸ G j h1 h2) (g := mkF m pc ls (.int j :: .ref a :: st)) rfl rfl (hb F.2.1 hd) t q
theorem Kx.baload (K : Kx E y bytes ml rt l Z R n0 Q) {N j : Int32} {f : Int32 → Value} {v : Value} (hd : Dc bytes pc .baload 1 pc') (A : Ia Z h a .byte N f) (h1 : ¬ j < 0) (h2 : j < N) (hv : f j = v) (k : Wk E h kc kn pc' ls (v :: st)) : Wk E h kc kn pc ls (.int j :: .ref a :: st) := by
  obtain ⟨hd, rfl⟩ := hd
  obtain ⟨cl, A, S, M, G⟩ := A
  refine K.lift (fun p e s m args below meth c F T locs X eT t q => ?_) k
  exact X.baloadBytes F.1 (by rw [eT]; exact A.1) (State.isArrayOf_alike F.2.2.2.2.2.1.alike A.2.1) A.2.2 (inb_of S ⟨h1, h2⟩) (hv ▸ G j h1 h2) (g := mkF m pc ls (.int j :: .ref a :: st)) rfl rfl (hb F.2.1 hd) t q
theorem Kx.caload (K : Kx E y bytes ml rt l Z R n0 Q) {N j : Int32} {f : Int32 → Value} {v : Value} (hd : Dc bytes pc .caload 1 pc') (A : Ia Z h a .char N f) (h1 : ¬ j < 0) (h2 : j < N) (hv : f j = v) (k : Wk E h kc kn pc' ls (v :: st)) : Wk E h kc kn pc ls (.int j :: .ref a :: st) := by
  obtain ⟨hd, rfl⟩ := hd
  obtain ⟨cl, A, S, M, G⟩ := A
  refine K.lift (fun p e s m args below meth c F T locs X eT t q => ?_) k
  exact X.caload F.1 (by rw [eT]; exact A.1) (State.isArrayOf_alike F.2.2.2.2.2.1.alike A.2.1) A.2.2 (inb_of S ⟨h1, h2⟩) (hv ▸ G j h1 h2) (g := mkF m pc ls (.int j :: .ref a :: st)) rfl rfl (hb F.2.1 hd) t q
theorem Kx.aaload (K : Kx E y bytes ml rt l Z R n0 Q) {N j : Int32} {f : Int32 → Value} {ty : FieldType} {v : Value} (hd : Dc bytes pc .aaload 1 pc') (A : Ia Z h a ty N f) (hty : ty.isReference = true) (h1 : ¬ j < 0) (h2 : j < N) (hv : f j = v) (k : Wk E h kc kn pc' ls (v :: st)) : Wk E h kc kn pc ls (.int j :: .ref a :: st) := by
  obtain ⟨hd, rfl⟩ := hd
  obtain ⟨cl, A, S, M, G⟩ := A
  refine K.lift (fun p e s m args below meth c F T locs X eT t q => ?_) k
  exact X.aaload F.1 (by rw [eT]; exact A.1) (State.isArrayOf_alike F.2.2.2.2.2.1.alike A.2.1) hty A.2.2 (inb_of S ⟨h1, h2⟩) (hv ▸ G j h1 h2) (g := mkF m pc ls (.int j :: .ref a :: st)) rfl rfl (hb F.2.1 hd) t q
theorem Kx.iastore (K : Kx E y bytes ml rt l Z R n0 Q) {N j x : Int32} {f : Int32 → Value} (hd : Dc bytes pc .iastore 1 pc') (A : Ia Z h a .int N f) (h1 : ¬ j < 0) (h2 : j < N) (ge : n0 ≤ a)
    (k : ∀ h', Wr h h' a j.toNatClampNeg (.int x) → Ia Z h' a .int N (fun k => if k = j then .int x else f k) → Wk E h' kc kn pc' ls st) : Wk E h kc kn pc ls (.int x :: .int j :: .ref a :: st) := by
  obtain ⟨hd, rfl⟩ := hd
  refine K.move (fun p e s m args below meth c G T locs X eT N' => ?_)
  obtain ⟨g1, g2, g3, g4, g5, hZ, hown, g8, g9⟩ := G
  have hn : n0 ≤ h.size := by rw [← eT]; exact Nat.le_trans g9 X.same.2.1
  obtain ⟨cl, Ar, S, M, G⟩ := id A
  obtain ⟨T', h', X', e', W, q'⟩ := RoadKit.stI X g1 hZ eT Ar (inb_of S ⟨h1, h2⟩) (g := mkF m pc ls (.int x :: .int j :: .ref a :: st)) rfl rfl (hb g2 hd)
  exact ⟨T', _, _, _, _, _, _, _, X', e', (Fr.snoc X' N' ge), (Nat.le_of_eq W.size.symm), k h' W (A.set W h1), fun t q => q' t q⟩
theorem Kx.bastore (K : Kx E y bytes ml rt l Z R n0 Q) {N j x : Int32} {f : Int32 → Value} (hd : Dc bytes pc .bastore 1 pc') (A : Ia Z h a .byte N f) (h1 : ¬ j < 0) (h2 : j < N) (ge : n0 ≤ a)
    (k : ∀ h', Wr h h' a j.toNatClampNeg (.int x.toInt8.toInt32) → Ia Z h' a .byte N (fun k => if k = j then .int x.toInt8.toInt32 else f k) → Wk E h' kc kn pc' ls st) : Wk E h kc kn pc ls (.int x :: .int j :: .ref a :: st) := by
  obtain ⟨hd, rfl⟩ := hd
  refine K.move (fun p e s m args below meth c G T locs X eT N' => ?_)
  obtain ⟨g1, g2, g3, g4, g5, hZ, hown, g8, g9⟩ := G
  have hn : n0 ≤ h.size := by rw [← eT]; exact Nat.le_trans g9 X.same.2.1
  obtain ⟨cl, Ar, S, M, G⟩ := id A
  obtain ⟨T', h', X', e', W, q'⟩ := RoadKit.stB X g1 hZ eT Ar (inb_of S ⟨h1, h2⟩) (g := mkF m pc ls (.int x :: .int j :: .ref a :: st)) rfl rfl (hb g2 hd)
  exact ⟨T', _, _, _, _, _, _, _, X', e', (Fr.snoc X' N' ge), (Nat.le_of_eq W.size.symm), k h' W (A.set W h1), fun t q => q' t q⟩
theorem Kx.castore (K : Kx E y bytes ml rt l Z R n0 Q) {N j x : Int32} {f : Int32 → Value} (hd : Dc bytes pc .castore 1 pc') (A : Ia Z h a .char N f) (h1 : ¬ j < 0) (h2 : j < N) (ge : n0 ≤ a)
    (k : ∀ h', Wr h h' a j.toNatClampNeg (.int x.toUInt32.toUInt16.toUInt32.toInt32) → Ia Z h' a .char N (fun k => if k = j then .int x.toUInt32.toUInt16.toUInt32.toInt32 else f k) → Wk E h' kc kn pc' ls st) : Wk E h kc kn pc ls (.int x :: .int j :: .ref a :: st) := by
  obtain ⟨hd, rfl⟩ := hd
  refine K.move (fun p e s m args below meth c G T locs X eT N' => ?_)
  obtain ⟨g1, g2, g3, g4, g5, hZ, hown, g8, g9⟩ := G
  have hn : n0 ≤ h.size := by rw [← eT]; exact Nat.le_trans g9 X.same.2.1
  obtain ⟨cl, Ar, S, M, G⟩ := id A
  obtain ⟨T', h', X', e', W, q'⟩ := RoadKit.stC X g1 hZ eT Ar (inb_of S ⟨h1, h2⟩) (g := mkF m pc ls (.int x :: .int j :: .ref a :: st)) rfl rfl (hb g2 hd)
  exact ⟨T', _, _, _, _, _, _, _, X', e', (Fr.snoc X' N' ge), (Nat.le_of_eq W.size.symm), k h' W (A.set W h1), fun t q => q' t q⟩
theorem Kx.getS (K : Kx E y bytes ml rt l Z R n0 Q) {i : Nat} {O n d : String} {v : Value} (hd : Dc bytes pc (.getstatic i) 3 pc') (w : (Jvm.Cond.fieldLink y.cls i O n d).before a0 Z = true) (F : Sta Z h O n d v) (k : Wk E h kc kn pc' ls (v :: st)) : Wk E h kc kn pc ls st := by
  obtain ⟨hd, rfl⟩ := hd
  refine K.move (fun p e s m args below meth c G T locs X eT N => ?_)
  obtain ⟨g1, g2, g3, g4, g5, hZ, hown, g8, g9⟩ := G
  have hn : n0 ≤ h.size := by rw [← eT]; exact Nat.le_trans g9 X.same.2.1
  obtain ⟨T', X', e', q'⟩ := RoadKit.getS (host := "") X g1 hZ hown w Via.refl eT F (g := mkF m pc ls st) rfl (hb g2 hd)
  exact ⟨T', _, _, _, _, _, _, _, X', e', N, (Nat.le_refl _), k, fun t q => q' t q⟩
theorem Kx.castY (K : Kx E y bytes ml rt l Z R n0 Q) {i : Nat} {C : String} (hd : Dc bytes pc (.checkcast i) 3 pc') (w : (Jvm.Cond.classLink y.cls i C).before a0 Z = true) (F : Ins Z h a C true) (k : Wk E h kc kn pc' ls (.ref a :: st)) : Wk E h kc kn pc ls (.ref a :: st) := by
  obtain ⟨hd, rfl⟩ := hd
  refine K.move (fun p e s m args below meth c G T locs X eT N => ?_)
  obtain ⟨g1, g2, g3, g4, g5, hZ, hown, g8, g9⟩ := G
  obtain ⟨T', X', e', q'⟩ := RoadKit.castY X g1 hZ hown w eT F (g := mkF m pc ls (.ref a :: st)) rfl rfl (hb g2 hd)
  exact ⟨T', _, _, _, _, _, _, _, X', e', N, (Nat.le_refl _), k, fun t q => q' t q⟩
theorem Kx.instY (K : Kx E y bytes ml rt l Z R n0 Q) {i : Nat} {C : String} (hd : Dc bytes pc (.instanceof i) 3 pc') (w : (Jvm.Cond.classLink y.cls i C).before a0 Z = true) (F : Ins Z h a C true) (k : Wk E h kc kn pc' ls (.int 1 :: st)) : Wk E h kc kn pc ls (.ref a :: st) := by
  obtain ⟨hd, rfl⟩ := hd
  refine K.move (fun p e s m args below meth c G T locs X eT N => ?_)
  obtain ⟨g1, g2, g3, g4, g5, hZ, hown, g8, g9⟩ := G
  obtain ⟨T', X', e', q'⟩ := RoadKit.instY X g1 hZ hown w eT F (g := mkF m pc ls (.ref a :: st)) rfl rfl (hb g2 hd)
  exact ⟨T', _, _, _, _, _, _, _, X', e', N, (Nat.le_refl _), k, fun t q => q' t q⟩
theorem Kx.instNo (K : Kx E y bytes ml rt l Z R n0 Q) {i : Nat} {C D : String} (hd : Dc bytes pc (.instanceof i) 3 pc') (w : (Jvm.Cond.classLink y.cls i C).before a0 Z = true) (X0 : Exa Z h a D) (F : ∃ c t, Z.vm.findClass D = some c ∧ Z.vm.findClass C = some t ∧ Z.vm.assignable c t = false) (k : Wk E h kc kn pc' ls (.int 0 :: st)) : Wk E h kc kn pc ls (.ref a :: st) := by
  obtain ⟨hd, rfl⟩ := hd
  refine K.move (fun p e s m args below meth c G T locs X eT N => ?_)
  obtain ⟨g1, g2, g3, g4, g5, hZ, hown, g8, g9⟩ := G
  obtain ⟨T', X', e', q'⟩ := RoadKit.instNo X g1 hZ hown w eT X0 F (g := mkF m pc ls (.ref a :: st)) rfl rfl (hb g2 hd)
  exact ⟨T', _, _, _, _, _, _, _, X', e', N, (Nat.le_refl _), k, fun t q => q' t q⟩
theorem Kx.instNull (K : Kx E y bytes ml rt l Z R n0 Q) {i : Nat} (hd : Dc bytes pc (.instanceof i) 3 pc') (k : Wk E h kc kn pc' ls (.int 0 :: st)) : Wk E h kc kn pc ls (.null :: st) := by
  obtain ⟨hd, rfl⟩ := hd
  exact K.lift (fun p e s m args below meth c F T locs X eT t q => X.instanceofNull F.1 (g := mkF m pc ls (.null :: st)) rfl rfl (hb F.2.1 hd) t q) k
def Pl (h : Heap) (x : Addr) : Prop := ∃ c : Cell, h[x]? = some c ∧ c.vm.isStatics = false
theorem plE {C : String} (F : Exa Z h a C) : Pl h a := by obtain ⟨c, _, h1, -, -, h4, -⟩ := F; exact ⟨c, h1, h4⟩
theorem plA {ty : FieldType} {N : Int32} {f : Int32 → Value} (F : Ia Z h a ty N f) : Pl h a := by obtain ⟨c, A, -⟩ := F; exact ⟨c, A.1, A.plain⟩
theorem staK {C n d : String} {v : Value} {ws : List Addr} (F : Sta Z h C n d v) (K : Keep h h' ws) (q : ∀ x ∈ ws, Pl h x) : Sta Z h' C n d v := by
  obtain ⟨cf, i, k, f, sa, cell, h1, h2, h3, h4, h5, h6, h7⟩ := F
  refine ⟨cf, i, k, f, sa, cell, h1, h2, h3, h4, K.2.1 sa cell h5 (fun u => ?_), h6, h7⟩
  obtain ⟨c, e1, e2⟩ := q sa u
  cases h5.symm.trans e1
  rw [e2] at h6; cases h6
theorem Kx.ac_eq (K : Kx E y bytes ml rt l Z R n0 Q) {o : Int} (hd : Db bytes pc (.if_acmp .eq o) o pc1 pc2) (k1 : a = b → Wk E h kc kn pc2 ls st) (k2 : ¬ a = b → Wk E h kc kn pc1 ls st) : Wk E h kc kn pc ls (.ref b :: .ref a :: st) := by
  obtain ⟨hd, rfl, h0, h1⟩ := hd
  by_cases u : a = b
  · exact K.lift (fun p e s m args below meth c F T locs X eT t q => RoadKit.acmp (g := mkF m pc ls (.ref b :: .ref a :: st)) X F.1 rfl (x := .ref a) (y := .ref b) rfl rfl (same := true) rfl (hb F.2.1 hd) rfl (by simp [u]) h0 (by simp [acV, h1]) q) (k1 u)
  · exact K.lift (fun p e s m args below meth c F T locs X eT t q => RoadKit.acmp (g := mkF m pc ls (.ref b :: .ref a :: st)) X F.1 rfl (x := .ref a) (y := .ref b) rfl rfl (same := false) rfl (hb F.2.1 hd) rfl (by simp [u]) h0 (by simp [acV]) q) (k2 u)
theorem Kx.ac_ne (K : Kx E y bytes ml rt l Z R n0 Q) {o : Int} (hd : Db bytes pc (.if_acmp .ne o) o pc1 pc2) (k1 : a = b → Wk E h kc kn pc1 ls st) (k2 : ¬ a = b → Wk E h kc kn pc2 ls st) : Wk E h kc kn pc ls (.ref b :: .ref a :: st) := by
  obtain ⟨hd, rfl, h0, h1⟩ := hd
  by_cases u : a = b
  · exact K.lift (fun p e s m args below meth c F T locs X eT t q => RoadKit.acmp (g := mkF m pc ls (.ref b :: .ref a :: st)) X F.1 rfl (x := .ref a) (y := .ref b) rfl rfl (same := true) rfl (hb F.2.1 hd) rfl (by simp [u]) h0 (by simp [acV]) q) (k1 u)
  · exact K.lift (fun p e s m args below meth c F T locs X eT t q => RoadKit.acmp (g := mkF m pc ls (.ref b :: .ref a :: st)) X F.1 rfl (x := .ref a) (y := .ref b) rfl rfl (same := false) rfl (hb F.2.1 hd) rfl (by simp [u]) h0 (by simp [acV, h1]) q) (k2 u)
theorem Kx.initO (K : Kx E y bytes ml rt l Z R n0 Q) {i : Nat} (W : Nat) (hd : Dc bytes pc (.invokespecial i) 3 pc') (w1 : (Jvm.Cond.methodLink y.cls i Lib.objectInit).before a0 Z = true) (w2 : (Jvm.Cond.instanceMethod Lib.objectInit).before a0 Z = true) (w3 : (Jvm.Cond.code Lib.objectInit ⟨#[0xb1]⟩ 1 none).before a0 Z = true)
    (hsz : ls.size = ml) (hf : 1 ≤ R.frames) (hW : (st.map fun v => v.category).sum ≤ W) (hlo : W + 12 ≤ R.locals) (k : Wk E h kc kn pc' ls st) : Wk E h kc kn pc ls (.ref a :: st) := by
  obtain ⟨hd, rfl⟩ := hd
  refine K.move (fun p e s m args below meth c G T locs X eT N => ?_)
  obtain ⟨g1, g2, g3, g4, g5, hZ, hown, g8, g9⟩ := G
  have hn : n0 ≤ h.size := by rw [← eT]; exact Nat.le_trans g9 X.same.2.1
  obtain ⟨T', X', e', q'⟩ := RoadKit.initO X g1 hZ hown w1 w2 w3 eT (g := mkF m pc ls (.ref a :: st)) rfl (by rw [g3]; exact hsz) rfl (hb g2 hd) hf (W := W) (by show 2 * 0 + _ ≤ _; omega) hlo
  exact ⟨T', _, _, _, _, _, _, _, X', e', N, (Nat.le_refl _), k, fun t q => q' t q⟩
theorem Kx.callS (K : Kx E y bytes ml rt l Z R n0 Q) {i : Nat} {y' : MethodName} {bytes' : ByteArray} {ml' : Nat} {rt' : Option FieldType} {rm : Room} {Q' : Option Value → Heap → Prop} (as rest : List Value) (W kc' kn' : Nat) (hd : Dc bytes pc (.invokestatic i) 3 pc')
    (wl : (Jvm.Cond.methodLink y.cls i y').before a0 Z = true) (ws : (Jvm.Cond.static y').before a0 Z = true) (wz : (Jvm.Cond.initialized y'.cls).before a0 Z = true) (wc : (Jvm.Cond.code y' bytes' ml' rt').before a0 Z = true) (hy : y'.cls ≠ "java/lang/invoke/MethodHandle" ∧ y'.cls ≠ "java/lang/invoke/VarHandle")
    (con : Con l Z y' bytes' ml' rt' rm as.toArray h n0 Q') (hst : st = as.reverse ++ rest) (hlen : ∀ sig, parseMethodDescriptor y'.desc = some sig → as.length = sig.parameters.length) (hsz : ls.size = ml) (hW : (rest.map fun v => v.category).sum ≤ W)
    (hf : rm.frames + 1 ≤ R.frames) (hlo : W + (ml' + 11) + rm.locals ≤ R.locals) (hk : kc + rm.cells = kc') (hk2 : kn + rm.slots = kn') (hc : kc' ≤ R.cells) (hl : kn' ≤ R.slots)
    (k : ∀ v h', Q' v h' → Wk E h' kc' kn' pc' ls (v.toList ++ rest)) : Wk E h kc kn pc ls st := by
  obtain ⟨hd, rfl⟩ := hd
  obtain ⟨p, e, s, m, args, below, meth, c, rfl, g1, g2, g3, g4, g5, hZ, hown, g8, g9⟩ := K
  intro T locs X eT N
  have hn : n0 ≤ h.size := by rw [← eT]; exact Nat.le_trans g9 X.same.2.1
  subst hst hk hk2
  obtain ⟨v, vm₁, ⟨T', L', k', n'⟩, -, X', ⟨L, ⟨hQ, hFr⟩, e1, e2, e3⟩, q'⟩ := Jvm.LawKit.callS X g1 (y := y') hown (mvT hZ wl) (mvT hZ ws) (mvT hZ wz) (mvT hZ wc) hy (backOf (W := W) (Q := fun v h L => Q' v h ∧ Fr n0 L) (con hn []) hZ wc wz hf hlo) (g := mkF m pc ls (as.reverse ++ rest)) rfl (by rw [g3]; exact hsz) (argsL := as) (rest := rest) hlen rfl (by show 2 * 0 + _ ≤ _; omega) (hb g2 hd) (fun _ _ => ⟨rfl, eT, hc, hl⟩)
  dsimp only [Pt.U, Pt.locs, Pt.cells, Pt.slots] at X' e1 e2 e3 q' hQ
  subst e1 e2 e3
  obtain ⟨s₂, o, q, r⟩ := k v T'.heap hQ T' _ X' rfl (Fr.app N hFr)
  exact ⟨s₂, o, q' _ q, r⟩
theorem Kx.callI (K : Kx E y bytes ml rt l Z R n0 Q) {i : Nat} {y' : MethodName} {bytes' : ByteArray} {ml' : Nat} {rt' : Option FieldType} {rm : Room} {Q' : Option Value → Heap → Prop} (as rest : List Value) (W kc' kn' : Nat) (hd : Dc bytes pc (.invokespecial i) 3 pc') (hy1 : y'.name = "<init>") (hrt : rt' = none)
    (wl : (Jvm.Cond.methodLink y.cls i y').before a0 Z = true) (wn : (Jvm.Cond.instanceMethod y').before a0 Z = true) (wz : (Jvm.Cond.initialized y'.cls).before a0 Z = true) (wc : (Jvm.Cond.code y' bytes' ml' rt').before a0 Z = true) (hy : y'.cls ≠ "java/lang/invoke/MethodHandle" ∧ y'.cls ≠ "java/lang/invoke/VarHandle")
    (con : Con l Z y' bytes' ml' rt' rm (.ref a :: as).toArray h n0 Q') (hst : st = as.reverse ++ .ref a :: rest) (hlen : ∀ sig, parseMethodDescriptor y'.desc = some sig → as.length = sig.parameters.length) (hsz : ls.size = ml) (hW : (rest.map fun v => v.category).sum ≤ W)
    (hf : rm.frames + 1 ≤ R.frames) (hlo : W + (ml' + 11) + rm.locals ≤ R.locals) (hk : kc + rm.cells = kc') (hk2 : kn + rm.slots = kn') (hc : kc' ≤ R.cells) (hl : kn' ≤ R.slots)
    (k : ∀ v h', Q' v h' → Wk E h' kc' kn' pc' ls (v.toList ++ rest)) : Wk E h kc kn pc ls st := by
  obtain ⟨hd, rfl⟩ := hd
  obtain ⟨p, e, s, m, args, below, meth, c, rfl, g1, g2, g3, g4, g5, hZ, hown, g8, g9⟩ := K
  intro T locs X eT N
  have hn : n0 ≤ h.size := by rw [← eT]; exact Nat.le_trans g9 X.same.2.1
  subst hst hk hk2
  subst hrt
  obtain ⟨v, vm₁, ⟨T', L', k', n'⟩, -, X', ⟨L, ⟨hQ, hFr⟩, e1, e2, e3⟩, q'⟩ := X.specialBack g1 (y := y') hy1 hown (mvT hZ wl) (mvT hZ wn) (mvT hZ wc) hy (backOf (W := W) (Q := fun v h L => Q' v h ∧ Fr n0 L) (con hn []) hZ wc wz hf hlo) (g := mkF m pc ls (as.reverse ++ .ref a :: rest)) rfl (by rw [g3]; exact hsz) (Steps.refl _) (a := a) (argsL := as) (rest := rest) hlen rfl (by show 2 * 0 + _ ≤ _; omega) (hb g2 hd) (fun _ _ => ⟨rfl, eT, hc, hl⟩)
  dsimp only [Pt.U, Pt.locs, Pt.cells, Pt.slots] at X' e1 e2 e3 q' hQ
  subst e1 e2 e3
  obtain ⟨s₂, o, q, r⟩ := k v T'.heap hQ T' _ X' rfl (Fr.app N hFr)
  exact ⟨s₂, o, q'.trans q, r⟩
theorem Kx.callV (K : Kx E y bytes ml rt l Z R n0 Q) {i : Nat} {y' : MethodName} {bytes' : ByteArray} {ml' : Nat} {rt' : Option FieldType} {rm : Room} {Q' : Option Value → Heap → Prop} (as rest : List Value) (W kc' kn' : Nat) {C : String} (hd : Dc bytes pc (.invokevirtual i) 3 pc')
    (wl : (Jvm.Cond.methodLink y.cls i y').before a0 Z = true) (wd : (Jvm.Cond.declares y').before a0 Z = true) (wse : (Jvm.Cond.selects C y' y').before a0 Z = true) (wn : (Jvm.Cond.instanceMethod y').before a0 Z = true) (wz : (Jvm.Cond.initialized y'.cls).before a0 Z = true) (wc : (Jvm.Cond.code y' bytes' ml' rt').before a0 Z = true) (hy : y'.cls ≠ "java/lang/invoke/MethodHandle" ∧ y'.cls ≠ "java/lang/invoke/VarHandle")
    (con : Con l Z y' bytes' ml' rt' rm (.ref a :: as).toArray h n0 Q') (X0 : Exa Z h a C) (hst : st = as.reverse ++ .ref a :: rest) (hlen : ∀ sig, parseMethodDescriptor y'.desc = some sig → as.length = sig.parameters.length) (hsz : ls.size = ml) (hW : (rest.map fun v => v.category).sum ≤ W)
    (hf : rm.frames + 1 ≤ R.frames) (hlo : W + (ml' + 11) + rm.locals ≤ R.locals) (hk : kc + rm.cells = kc') (hk2 : kn + rm.slots = kn') (hc : kc' ≤ R.cells) (hl : kn' ≤ R.slots)
    (k : ∀ v h', Q' v h' → Wk E h' kc' kn' pc' ls (v.toList ++ rest)) : Wk E h kc kn pc ls st := by
  obtain ⟨hd, rfl⟩ := hd
  obtain ⟨p, e, s, m, args, below, meth, c, rfl, g1, g2, g3, g4, g5, hZ, hown, g8, g9⟩ := K
  intro T locs X eT N
  have hn : n0 ≤ h.size := by rw [← eT]; exact Nat.le_trans g9 X.same.2.1
  subst hst hk hk2
  obtain ⟨cq, kq, qa, qb, qc⟩ := isOf hZ eT X0
  obtain ⟨v, vm₁, ⟨T', L', k', n'⟩, -, X', ⟨L, ⟨hQ, hFr⟩, e1, e2, e3⟩, q'⟩ := X.virtualBack g1 (y := y') (z := y') hown (mvT hZ wl) (mvT hZ wd) (notFace_of_selects (args := #[]) (mvT hZ wse)) (mvT hZ wse) (mvT hZ wn) hy (backOf (W := W) (Q := fun v h L => Q' v h ∧ Fr n0 L) (con hn []) hZ wc wz hf hlo) qa qc (g := mkF m pc ls (as.reverse ++ .ref a :: rest)) rfl (by rw [g3]; exact hsz) (Steps.refl _) (argsL := as) (rest := rest) hlen rfl (by show 2 * 0 + _ ≤ _; omega) (hb g2 hd) (fun _ _ => ⟨rfl, eT, hc, hl⟩)
  dsimp only [Pt.U, Pt.locs, Pt.cells, Pt.slots] at X' e1 e2 e3 q' hQ
  subst e1 e2 e3
  obtain ⟨s₂, o, q, r⟩ := k v T'.heap hQ T' _ X' rfl (Fr.app N hFr)
  exact ⟨s₂, o, q'.trans q, r⟩
theorem Kx.callP (K : Kx E y bytes ml rt l Z R n0 Q) {i : Nat} {y' : MethodName} {bytes' : ByteArray} {ml' : Nat} {rt' : Option FieldType} {rm : Room} {Q' : Option Value → Heap → Prop} (as rest : List Value) (W kc' kn' : Nat) {C : String} (hd : Dc bytes pc (.invokevirtual i) 3 pc')
    (wl : (Jvm.Cond.methodLink y.cls i y').before a0 Z = true) (wp : (Jvm.Cond.privateMethod y').before a0 Z = true) (wse : (Jvm.Cond.selects y'.cls y' y').before a0 Z = true) (wn : (Jvm.Cond.instanceMethod y').before a0 Z = true) (wz : (Jvm.Cond.initialized y'.cls).before a0 Z = true) (wc : (Jvm.Cond.code y' bytes' ml' rt').before a0 Z = true) (hy : y'.cls ≠ "java/lang/invoke/MethodHandle" ∧ y'.cls ≠ "java/lang/invoke/VarHandle")
    (con : Con l Z y' bytes' ml' rt' rm (.ref a :: as).toArray h n0 Q') (X0 : Exa Z h a C) (hst : st = as.reverse ++ .ref a :: rest) (hlen : ∀ sig, parseMethodDescriptor y'.desc = some sig → as.length = sig.parameters.length) (hsz : ls.size = ml) (hW : (rest.map fun v => v.category).sum ≤ W)
    (hf : rm.frames + 1 ≤ R.frames) (hlo : W + (ml' + 11) + rm.locals ≤ R.locals) (hk : kc + rm.cells = kc') (hk2 : kn + rm.slots = kn') (hc : kc' ≤ R.cells) (hl : kn' ≤ R.slots)
    (k : ∀ v h', Q' v h' → Wk E h' kc' kn' pc' ls (v.toList ++ rest)) : Wk E h kc kn pc ls st := by
  obtain ⟨hd, rfl⟩ := hd
  obtain ⟨p, e, s, m, args, below, meth, c, rfl, g1, g2, g3, g4, g5, hZ, hown, g8, g9⟩ := K
  intro T locs X eT N
  have hn : n0 ≤ h.size := by rw [← eT]; exact Nat.le_trans g9 X.same.2.1
  subst hst hk hk2
  obtain ⟨cq, qa, qb⟩ := X0.cell
  obtain ⟨v, vm₁, ⟨T', L', k', n'⟩, -, X', ⟨L, ⟨hQ, hFr⟩, e1, e2, e3⟩, q'⟩ := X.privateBack g1 (y := y') hown (mvT hZ wl) (mvT hZ wn) (mvT hZ wse) (Cond.privateMethod_at (mvP hZ wp (args := #[]))) (mvT hZ wc) hy (backOf (W := W) (Q := fun v h L => Q' v h ∧ Fr n0 L) (con hn []) hZ wc wz hf hlo) (g := mkF m pc ls (as.reverse ++ .ref a :: rest)) rfl (by rw [g3]; exact hsz) (Steps.refl _) (a := a) (by rw [eT]; exact qa) qb (argsL := as) (rest := rest) hlen rfl (by show 2 * 0 + _ ≤ _; omega) (hb g2 hd) (fun _ _ => ⟨rfl, eT, hc, hl⟩)
  dsimp only [Pt.U, Pt.locs, Pt.cells, Pt.slots] at X' e1 e2 e3 q' hQ
  subst e1 e2 e3
  obtain ⟨s₂, o, q, r⟩ := k v T'.heap hQ T' _ X' rfl (Fr.app N hFr)
  exact ⟨s₂, o, q'.trans q, r⟩
/-- how a call goes on: it hands back one value and leaves the heap; a value; nothing; a reference -/
theorem goP {val : Value} {rest : List Value} (k : Wk E h kc kn pc ls (val :: rest)) : ∀ v h', (v = some val ∧ h' = h) → Wk E h' kc kn pc ls (v.toList ++ rest) := fun v h' q => by obtain ⟨rfl, rfl⟩ := q; exact k
theorem goV {val : Value} {rest : List Value} {Qh : Heap → Prop} (k : ∀ h', Qh h' → Wk E h' kc kn pc ls (val :: rest)) : ∀ v h', (v = some val ∧ Qh h') → Wk E h' kc kn pc ls (v.toList ++ rest) := fun v h' q => by obtain ⟨rfl, q⟩ := q; exact k h' q
theorem goN {rest : List Value} (k : Wk E h kc kn pc ls rest) : ∀ v h', (v = (none : Option Value) ∧ h' = h) → Wk E h' kc kn pc ls (v.toList ++ rest) := fun v h' q => by obtain ⟨rfl, rfl⟩ := q; exact k
theorem goU {rest : List Value} {Qh : Heap → Prop} (k : ∀ h', Qh h' → Wk E h' kc kn pc ls rest) : ∀ v h', (v = (none : Option Value) ∧ Qh h') → Wk E h' kc kn pc ls (v.toList ++ rest) := fun v h' q => by obtain ⟨rfl, q⟩ := q; exact k h' q
theorem goR {rest : List Value} {Qr : Addr → Heap → Prop} (k : ∀ a h', Qr a h' → Wk E h' kc kn pc ls (.ref a :: rest)) : ∀ v h', (∃ a, v = some (.ref a) ∧ Qr a h') → Wk E h' kc kn pc ls (v.toList ++ rest) := fun v h' q => by obtain ⟨a, rfl, q⟩ := q; exact k a h' q
theorem goI {rest : List Value} {Qr : Int32 → Heap → Prop} (k : ∀ a h', Qr a h' → Wk E h' kc kn pc ls (.int a :: rest)) : ∀ v h', (∃ a, v = some (.int a) ∧ Qr a h') → Wk E h' kc kn pc ls (v.toList ++ rest) := fun v h' q => by obtain ⟨a, rfl, q⟩ := q; exact k a h' q
theorem Kx.ret (K : Kx E y bytes ml none l Z R n0 Q) (hd : Dc bytes pc .return_ 1 pc') (hc : kc ≤ R.cells) (hl : kn ≤ R.slots) (hQ : Q none h) : Wk E h kc kn pc ls [] := by
  obtain ⟨p, e, s, m, args, below, meth, c, rfl, g1, g2, g3, g4, g5, hZ, hown, g8, g9⟩ := K
  intro T locs X eT N
  obtain ⟨fs, hr, hrun, hended, hW, hsame⟩ := X.leave (v := none) (fun _ => rfl) g5
  exact ⟨_, _, X.returnOut g1 g4 (hb g2 hd.1) hr, hrun, hended, _, _, rfl, ⟨(by show Q none T.heap; rw [eT]; exact hQ), N⟩, ⟨_, rfl⟩, hW, hsame.mono hc hl⟩
theorem Kx.retW {t : FieldType} {w : Value} {i : Instr} (K : Kx E y bytes ml (some t) l Z R n0 Q) (hd : Dc bytes pc i 1 pc') (hna : narrow t w = w) (hi : (i = .ireturn ∧ (t = .int ∨ t = .boolean ∨ t = .byte ∨ t = .char ∨ t = .short) ∧ ∃ z, w = .int z) ∨ (i = .lreturn ∧ t = .long ∧ ∃ z, w = .long z) ∨ (i = .dreturn ∧ t = .double ∧ ∃ z, w = .double z) ∨ (i = .freturn ∧ t = .float ∧ ∃ z, w = .float z) ∨ (i = .areturn ∧ t.isReference = true ∧ w.isRef = true)) (hc : kc ≤ R.cells) (hl : kn ≤ R.slots) (hQ : Q (some w) h) : Wk E h kc kn pc ls (w :: st) := by
  obtain ⟨p, e, s, m, args, below, meth, c, rfl, g1, g2, g3, g4, g5, hZ, hown, g8, g9⟩ := K
  intro T locs X eT N
  obtain ⟨fs, hr, hrun, hended, hW, hsame⟩ := X.leave (v := some w) (fun h => by rw [g4] at h; cases h) g5
  exact ⟨_, _, retOut X g1 g4 hna hi (hb g2 hd.1) hr, hrun, hended, _, _, rfl, ⟨(by show Q (some w) T.heap; rw [eT]; exact hQ), N⟩, ⟨_, rfl⟩, hW, hsame.mono hc hl⟩
theorem Kx.ireturn {t : FieldType} {z : Int32} (K : Kx E y bytes ml (some t) l Z R n0 Q) (hd : Dc bytes pc .ireturn 1 pc') (ht : t = .int ∨ t = .boolean ∨ t = .byte ∨ t = .char ∨ t = .short) (hna : narrow t (.int z) = .int z) (hc : kc ≤ R.cells) (hl : kn ≤ R.slots) (hQ : Q (some (.int z)) h) : Wk E h kc kn pc ls (.int z :: st) :=
  K.retW hd hna (Or.inl ⟨rfl, ht, z, rfl⟩) hc hl hQ
theorem Kx.lreturn {z : Int64} (K : Kx E y bytes ml (some .long) l Z R n0 Q) (hd : Dc bytes pc .lreturn 1 pc') (hc : kc ≤ R.cells) (hl : kn ≤ R.slots) (hQ : Q (some (.long z)) h) : Wk E h kc kn pc ls (.long z :: st) :=
  K.retW hd rfl (Or.inr (Or.inl ⟨rfl, rfl, z, rfl⟩)) hc hl hQ
theorem Kx.areturn {t : FieldType} {w : Value} (K : Kx E y bytes ml (some t) l Z R n0 Q) (hd : Dc bytes pc .areturn 1 pc') (ht : t.isReference = true) (hw : w.isRef = true) (hna : narrow t w = w) (hc : kc ≤ R.cells) (hl : kn ≤ R.slots) (hQ : Q (some w) h) : Wk E h kc kn pc ls (w :: st) :=
  K.retW hd hna (Or.inr (Or.inr (Or.inr (Or.inr ⟨rfl, ht, hw⟩)))) hc hl hQ
theorem narB {P : Prop} [Decidable P] : narrow .boolean (.int (if P then 1 else 0)) = .int (if P then 1 else 0) := by split <;> rfl
theorem narB' {P : Prop} [Decidable P] : narrow .boolean (.int (if P then 0 else 1)) = .int (if P then 0 else 1) := by split <;> rfl
end Own
end Jvm.Pilot.@@N@@
namespace Jvm.Pilot.@@N@@
open Jvm Jvm.ClassFile Sem Op Lib Jvm.Free Jvm.Stand Jvm.LawKit Jvm.RoadKit Bundle Jvm.Pilot.@@N@@.Jvm.D
theorem dL_0 : Dc method_2_code 0 (.lload_n 1) 1 1 := ⟨by decide +kernel, rfl⟩
theorem dL_1 : Dc method_2_code 1 (.iconst 2) 1 2 := ⟨by decide +kernel, rfl⟩
theorem dL_2 : Dc method_2_code 2 (.iload_n 3) 1 3 := ⟨by decide +kernel, rfl⟩
theorem dL_3 : Dc method_2_code 3 .imul 1 4 := ⟨by decide +kernel, rfl⟩
theorem dL_4 : Dc method_2_code 4 .lushr 1 5 := ⟨by decide +kernel, rfl⟩
theorem dL_5 : Dc method_2_code 5 (.ldc2_w 7) 3 8 := ⟨by decide +kernel, rfl⟩
set_option maxRecDepth 65536 in
theorem wd9 {Z : State} {a0 : Array Value} (hw : ∀ d ∈ tables_1, d.before a0 Z = true) : (Jvm.Cond.constantLong "com/example/briareus/briareus/ByteSearchContainsPinLaw" (7 : Nat) (3 : Int64)).before a0 Z = true := hw _ (List.mem_of_getElem? (i := 9) rfl)
theorem dL_8 : Dc method_2_code 8 .land 1 9 := ⟨by decide +kernel, rfl⟩
theorem dL_9 : Dc method_2_code 9 .l2i 1 10 := ⟨by decide +kernel, rfl⟩
theorem dL_10 : Dc method_2_code 10 (.istore 4) 2 12 := ⟨by decide +kernel, rfl⟩
theorem dL_12 : Dc method_2_code 12 (.iload_n 0) 1 13 := ⟨by decide +kernel, rfl⟩
theorem dL_13 : Dc method_2_code 13 (.bipush 8) 2 15 := ⟨by decide +kernel, rfl⟩
theorem dL_15 : Dc method_2_code 15 (.iload 4) 2 17 := ⟨by decide +kernel, rfl⟩
theorem dL_17 : Dc method_2_code 17 .imul 1 18 := ⟨by decide +kernel, rfl⟩
theorem dL_18 : Dc method_2_code 18 .iushr 1 19 := ⟨by decide +kernel, rfl⟩
theorem dL_19 : Dc method_2_code 19 .i2b 1 20 := ⟨by decide +kernel, rfl⟩
theorem dL_20 : Dc method_2_code 20 .ireturn 1 21 := ⟨by decide +kernel, rfl⟩
theorem efL (m : MethodId) (x0 : Int32) (x1 : Int64) (x2 : Int32) : entryFrame m #[.int x0, .long x1, .int x2] 5 = mkF m 0 #[.val (.int x0), .val (.long x1), .second, .val (.int x2), .unset] [] := by first | (simp [entryFrame, mkF, argsToLocals, Value.category]; done) | rfl
theorem pnL : plainFor (⟨"com/example/briareus/briareus/ByteSearchContainsPinLaw", "letter", "(IJI)B"⟩ : MethodName) = true := plainFor_of_name (by first | (simp [plainName, overriddenIn]; done) | decide +kernel)
theorem dM_0 : Dc method_3_code 0 (.iload_n 0) 1 1 := ⟨by decide +kernel, rfl⟩
theorem dM_1 : Dc method_3_code 1 (.newarray .byte) 2 3 := ⟨by decide +kernel, rfl⟩
set_option maxRecDepth 65536 in
theorem wd5 {Z : State} {a0 : Array Value} (hw : ∀ d ∈ tables_1, d.before a0 Z = true) : (Jvm.Cond.arrayClass Jvm.ClassFile.FieldType.byte).before a0 Z = true := hw _ (List.mem_of_getElem? (i := 5) rfl)
theorem dM_3 : Dc method_3_code 3 (.astore 4) 2 5 := ⟨by decide +kernel, rfl⟩
theorem dM_5 : Dc method_3_code 5 (.iload_n 0) 1 6 := ⟨by decide +kernel, rfl⟩
theorem dM_6 : Db method_3_code 6 (.ifCond .le 13) 13 9 19 := ⟨by decide +kernel, rfl, by decide, by decide⟩
theorem dM_9 : Dc method_3_code 9 (.aload 4) 2 11 := ⟨by decide +kernel, rfl⟩
theorem dM_11 : Dc method_3_code 11 (.iconst 0) 1 12 := ⟨by decide +kernel, rfl⟩
theorem dM_12 : Dc method_3_code 12 (.iload_n 1) 1 13 := ⟨by decide +kernel, rfl⟩
theorem dM_13 : Dc method_3_code 13 (.lload_n 2) 1 14 := ⟨by decide +kernel, rfl⟩
theorem dM_14 : Dc method_3_code 14 (.iconst 0) 1 15 := ⟨by decide +kernel, rfl⟩
theorem dM_15 : Dc method_3_code 15 (.invokestatic 9) 3 18 := ⟨by decide +kernel, rfl⟩
set_option maxRecDepth 65536 in
theorem wd3 {Z : State} {a0 : Array Value} (hw : ∀ d ∈ tables_1, d.before a0 Z = true) : (Jvm.Cond.initialized "com/example/briareus/briareus/ByteSearchContainsPinLaw").before a0 Z = true := hw _ (List.mem_of_getElem? (i := 3) rfl)
theorem pd_1 : parseMethodDescriptor "(IJI)B" = some ⟨[.int, .long, .int], some .byte⟩ := by decide +kernel
set_option maxRecDepth 65536 in
theorem wd6 {Z : State} {a0 : Array Value} (hw : ∀ d ∈ tables_1, d.before a0 Z = true) : (Jvm.Cond.methodLink "com/example/briareus/briareus/ByteSearchContainsPinLaw" (9 : Nat) ({ cls := "com/example/briareus/briareus/ByteSearchContainsPinLaw", name := "letter", desc := "(IJI)B" } : Jvm.MethodName)).before a0 Z = true := hw _ (List.mem_of_getElem? (i := 6) rfl)
set_option maxRecDepth 65536 in
theorem wd7 {Z : State} {a0 : Array Value} (hw : ∀ d ∈ tables_1, d.before a0 Z = true) : (Jvm.Cond.static ({ cls := "com/example/briareus/briareus/ByteSearchContainsPinLaw", name := "letter", desc := "(IJI)B" } : Jvm.MethodName)).before a0 Z = true := hw _ (List.mem_of_getElem? (i := 7) rfl)
set_option maxRecDepth 65536 in
theorem wd8 {Z : State} {a0 : Array Value} (hw : ∀ d ∈ tables_1, d.before a0 Z = true) : (Jvm.Cond.code ({ cls := "com/example/briareus/briareus/ByteSearchContainsPinLaw", name := "letter", desc := "(IJI)B" } : Jvm.MethodName) method_2_code (5 : Nat) (Option.some Jvm.ClassFile.FieldType.byte)).before a0 Z = true := hw _ (List.mem_of_getElem? (i := 8) rfl)
theorem dM_18 : Dc method_3_code 18 .bastore 1 19 := ⟨by decide +kernel, rfl⟩
theorem dM_19 : Dc method_3_code 19 (.iload_n 0) 1 20 := ⟨by decide +kernel, rfl⟩
theorem dM_20 : Dc method_3_code 20 (.iconst 1) 1 21 := ⟨by decide +kernel, rfl⟩
theorem dM_21 : Db method_3_code 21 (.if_icmp .le 13) 13 24 34 := ⟨by decide +kernel, rfl, by decide, by decide⟩
theorem dM_24 : Dc method_3_code 24 (.aload 4) 2 26 := ⟨by decide +kernel, rfl⟩
theorem dM_26 : Dc method_3_code 26 (.iconst 1) 1 27 := ⟨by decide +kernel, rfl⟩
theorem dM_27 : Dc method_3_code 27 (.iload_n 1) 1 28 := ⟨by decide +kernel, rfl⟩
theorem dM_28 : Dc method_3_code 28 (.lload_n 2) 1 29 := ⟨by decide +kernel, rfl⟩
theorem dM_29 : Dc method_3_code 29 (.iconst 1) 1 30 := ⟨by decide +kernel, rfl⟩
theorem dM_30 : Dc method_3_code 30 (.invokestatic 9) 3 33 := ⟨by decide +kernel, rfl⟩
theorem dM_33 : Dc method_3_code 33 .bastore 1 34 := ⟨by decide +kernel, rfl⟩
theorem dM_34 : Dc method_3_code 34 (.iload_n 0) 1 35 := ⟨by decide +kernel, rfl⟩
theorem dM_35 : Dc method_3_code 35 (.iconst 2) 1 36 := ⟨by decide +kernel, rfl⟩
theorem dM_36 : Db method_3_code 36 (.if_icmp .le 13) 13 39 49 := ⟨by decide +kernel, rfl, by decide, by decide⟩
theorem dM_39 : Dc method_3_code 39 (.aload 4) 2 41 := ⟨by decide +kernel, rfl⟩
theorem dM_41 : Dc method_3_code 41 (.iconst 2) 1 42 := ⟨by decide +kernel, rfl⟩
theorem dM_42 : Dc method_3_code 42 (.iload_n 1) 1 43 := ⟨by decide +kernel, rfl⟩
theorem dM_43 : Dc method_3_code 43 (.lload_n 2) 1 44 := ⟨by decide +kernel, rfl⟩
theorem dM_44 : Dc method_3_code 44 (.iconst 2) 1 45 := ⟨by decide +kernel, rfl⟩
theorem dM_45 : Dc method_3_code 45 (.invokestatic 9) 3 48 := ⟨by decide +kernel, rfl⟩
theorem dM_48 : Dc method_3_code 48 .bastore 1 49 := ⟨by decide +kernel, rfl⟩
theorem dM_49 : Dc method_3_code 49 (.iload_n 0) 1 50 := ⟨by decide +kernel, rfl⟩
theorem dM_50 : Dc method_3_code 50 (.iconst 3) 1 51 := ⟨by decide +kernel, rfl⟩
theorem dM_51 : Db method_3_code 51 (.if_icmp .le 13) 13 54 64 := ⟨by decide +kernel, rfl, by decide, by decide⟩
theorem dM_54 : Dc method_3_code 54 (.aload 4) 2 56 := ⟨by decide +kernel, rfl⟩
theorem dM_56 : Dc method_3_code 56 (.iconst 3) 1 57 := ⟨by decide +kernel, rfl⟩
theorem dM_57 : Dc method_3_code 57 (.iload_n 1) 1 58 := ⟨by decide +kernel, rfl⟩
theorem dM_58 : Dc method_3_code 58 (.lload_n 2) 1 59 := ⟨by decide +kernel, rfl⟩
theorem dM_59 : Dc method_3_code 59 (.iconst 3) 1 60 := ⟨by decide +kernel, rfl⟩
theorem dM_60 : Dc method_3_code 60 (.invokestatic 9) 3 63 := ⟨by decide +kernel, rfl⟩
theorem dM_63 : Dc method_3_code 63 .bastore 1 64 := ⟨by decide +kernel, rfl⟩
theorem dM_64 : Dc method_3_code 64 (.iload_n 0) 1 65 := ⟨by decide +kernel, rfl⟩
theorem dM_65 : Dc method_3_code 65 (.iconst 4) 1 66 := ⟨by decide +kernel, rfl⟩
theorem dM_66 : Db method_3_code 66 (.if_icmp .le 13) 13 69 79 := ⟨by decide +kernel, rfl, by decide, by decide⟩
theorem dM_69 : Dc method_3_code 69 (.aload 4) 2 71 := ⟨by decide +kernel, rfl⟩
theorem dM_71 : Dc method_3_code 71 (.iconst 4) 1 72 := ⟨by decide +kernel, rfl⟩
theorem dM_72 : Dc method_3_code 72 (.iload_n 1) 1 73 := ⟨by decide +kernel, rfl⟩
theorem dM_73 : Dc method_3_code 73 (.lload_n 2) 1 74 := ⟨by decide +kernel, rfl⟩
theorem dM_74 : Dc method_3_code 74 (.iconst 4) 1 75 := ⟨by decide +kernel, rfl⟩
theorem dM_75 : Dc method_3_code 75 (.invokestatic 9) 3 78 := ⟨by decide +kernel, rfl⟩
theorem dM_78 : Dc method_3_code 78 .bastore 1 79 := ⟨by decide +kernel, rfl⟩
theorem dM_79 : Dc method_3_code 79 (.iload_n 0) 1 80 := ⟨by decide +kernel, rfl⟩
theorem dM_80 : Dc method_3_code 80 (.iconst 5) 1 81 := ⟨by decide +kernel, rfl⟩
theorem dM_81 : Db method_3_code 81 (.if_icmp .le 13) 13 84 94 := ⟨by decide +kernel, rfl, by decide, by decide⟩
theorem dM_84 : Dc method_3_code 84 (.aload 4) 2 86 := ⟨by decide +kernel, rfl⟩
theorem dM_86 : Dc method_3_code 86 (.iconst 5) 1 87 := ⟨by decide +kernel, rfl⟩
theorem dM_87 : Dc method_3_code 87 (.iload_n 1) 1 88 := ⟨by decide +kernel, rfl⟩
theorem dM_88 : Dc method_3_code 88 (.lload_n 2) 1 89 := ⟨by decide +kernel, rfl⟩
theorem dM_89 : Dc method_3_code 89 (.iconst 5) 1 90 := ⟨by decide +kernel, rfl⟩
theorem dM_90 : Dc method_3_code 90 (.invokestatic 9) 3 93 := ⟨by decide +kernel, rfl⟩
theorem dM_93 : Dc method_3_code 93 .bastore 1 94 := ⟨by decide +kernel, rfl⟩
theorem dM_94 : Dc method_3_code 94 (.iload_n 0) 1 95 := ⟨by decide +kernel, rfl⟩
theorem dM_95 : Dc method_3_code 95 (.bipush 6) 2 97 := ⟨by decide +kernel, rfl⟩
theorem dM_97 : Db method_3_code 97 (.if_icmp .le 15) 15 100 112 := ⟨by decide +kernel, rfl, by decide, by decide⟩
theorem dM_100 : Dc method_3_code 100 (.aload 4) 2 102 := ⟨by decide +kernel, rfl⟩
theorem dM_102 : Dc method_3_code 102 (.bipush 6) 2 104 := ⟨by decide +kernel, rfl⟩
theorem dM_104 : Dc method_3_code 104 (.iload_n 1) 1 105 := ⟨by decide +kernel, rfl⟩
theorem dM_105 : Dc method_3_code 105 (.lload_n 2) 1 106 := ⟨by decide +kernel, rfl⟩
theorem dM_106 : Dc method_3_code 106 (.bipush 6) 2 108 := ⟨by decide +kernel, rfl⟩
theorem dM_108 : Dc method_3_code 108 (.invokestatic 9) 3 111 := ⟨by decide +kernel, rfl⟩
theorem dM_111 : Dc method_3_code 111 .bastore 1 112 := ⟨by decide +kernel, rfl⟩
theorem dM_112 : Dc method_3_code 112 (.iload_n 0) 1 113 := ⟨by decide +kernel, rfl⟩
theorem dM_113 : Dc method_3_code 113 (.bipush 7) 2 115 := ⟨by decide +kernel, rfl⟩
theorem dM_115 : Db method_3_code 115 (.if_icmp .le 15) 15 118 130 := ⟨by decide +kernel, rfl, by decide, by decide⟩
theorem dM_118 : Dc method_3_code 118 (.aload 4) 2 120 := ⟨by decide +kernel, rfl⟩
theorem dM_120 : Dc method_3_code 120 (.bipush 7) 2 122 := ⟨by decide +kernel, rfl⟩
theorem dM_122 : Dc method_3_code 122 (.iload_n 1) 1 123 := ⟨by decide +kernel, rfl⟩
theorem dM_123 : Dc method_3_code 123 (.lload_n 2) 1 124 := ⟨by decide +kernel, rfl⟩
theorem dM_124 : Dc method_3_code 124 (.bipush 7) 2 126 := ⟨by decide +kernel, rfl⟩
theorem dM_126 : Dc method_3_code 126 (.invokestatic 9) 3 129 := ⟨by decide +kernel, rfl⟩
theorem dM_129 : Dc method_3_code 129 .bastore 1 130 := ⟨by decide +kernel, rfl⟩
theorem dM_130 : Dc method_3_code 130 (.aload 4) 2 132 := ⟨by decide +kernel, rfl⟩
theorem dM_132 : Dc method_3_code 132 .areturn 1 133 := ⟨by decide +kernel, rfl⟩
theorem efM (m : MethodId) (x0 : Int32) (x1 : Int32) (x2 : Int64) : entryFrame m #[.int x0, .int x1, .long x2] 5 = mkF m 0 #[.val (.int x0), .val (.int x1), .val (.long x2), .second, .unset] [] := by first | (simp [entryFrame, mkF, argsToLocals, Value.category]; done) | rfl
theorem pnM : plainFor (⟨"com/example/briareus/briareus/ByteSearchContainsPinLaw", "make", "(IIJ)[B"⟩ : MethodName) = true := plainFor_of_name (by first | (simp [plainName, overriddenIn]; done) | decide +kernel)
theorem dA_0 : Dc method_4_code 0 (.iload 4) 2 2 := ⟨by decide +kernel, rfl⟩
theorem dA_2 : Dc method_4_code 2 (.iload_n 3) 1 3 := ⟨by decide +kernel, rfl⟩
theorem dA_3 : Dc method_4_code 3 .iadd 1 4 := ⟨by decide +kernel, rfl⟩
theorem dA_4 : Dc method_4_code 4 (.iload_n 1) 1 5 := ⟨by decide +kernel, rfl⟩
theorem dA_5 : Db method_4_code 5 (.if_icmp .le 5) 5 8 10 := ⟨by decide +kernel, rfl, by decide, by decide⟩
theorem dA_8 : Dc method_4_code 8 (.iconst 0) 1 9 := ⟨by decide +kernel, rfl⟩
theorem dA_9 : Dc method_4_code 9 .ireturn 1 10 := ⟨by decide +kernel, rfl⟩
theorem dA_10 : Dc method_4_code 10 (.iload_n 3) 1 11 := ⟨by decide +kernel, rfl⟩
theorem dA_11 : Db method_4_code 11 (.ifCond .le 13) 13 14 24 := ⟨by decide +kernel, rfl, by decide, by decide⟩
theorem dA_14 : Dc method_4_code 14 (.aload_n 2) 1 15 := ⟨by decide +kernel, rfl⟩
theorem dA_15 : Dc method_4_code 15 (.iconst 0) 1 16 := ⟨by decide +kernel, rfl⟩
theorem dA_16 : Dc method_4_code 16 .baload 1 17 := ⟨by decide +kernel, rfl⟩
theorem dA_17 : Dc method_4_code 17 (.aload_n 0) 1 18 := ⟨by decide +kernel, rfl⟩
theorem dA_18 : Dc method_4_code 18 (.iload 4) 2 20 := ⟨by decide +kernel, rfl⟩
theorem dA_20 : Dc method_4_code 20 .baload 1 21 := ⟨by decide +kernel, rfl⟩
theorem dA_21 : Db method_4_code 21 (.if_icmp .ne 75) 75 24 96 := ⟨by decide +kernel, rfl, by decide, by decide⟩
theorem dA_96 : Dc method_4_code 96 (.iconst 0) 1 97 := ⟨by decide +kernel, rfl⟩
theorem dA_97 : Dc method_4_code 97 .ireturn 1 98 := ⟨by decide +kernel, rfl⟩
theorem dA_24 : Dc method_4_code 24 (.iload_n 3) 1 25 := ⟨by decide +kernel, rfl⟩
theorem dA_25 : Dc method_4_code 25 (.iconst 1) 1 26 := ⟨by decide +kernel, rfl⟩
theorem dA_26 : Db method_4_code 26 (.if_icmp .le 15) 15 29 41 := ⟨by decide +kernel, rfl, by decide, by decide⟩
theorem dA_29 : Dc method_4_code 29 (.aload_n 2) 1 30 := ⟨by decide +kernel, rfl⟩
theorem dA_30 : Dc method_4_code 30 (.iconst 1) 1 31 := ⟨by decide +kernel, rfl⟩
theorem dA_31 : Dc method_4_code 31 .baload 1 32 := ⟨by decide +kernel, rfl⟩
theorem dA_32 : Dc method_4_code 32 (.aload_n 0) 1 33 := ⟨by decide +kernel, rfl⟩
theorem dA_33 : Dc method_4_code 33 (.iload 4) 2 35 := ⟨by decide +kernel, rfl⟩
theorem dA_35 : Dc method_4_code 35 (.iconst 1) 1 36 := ⟨by decide +kernel, rfl⟩
theorem dA_36 : Dc method_4_code 36 .iadd 1 37 := ⟨by decide +kernel, rfl⟩
theorem dA_37 : Dc method_4_code 37 .baload 1 38 := ⟨by decide +kernel, rfl⟩
theorem dA_38 : Db method_4_code 38 (.if_icmp .ne 58) 58 41 96 := ⟨by decide +kernel, rfl, by decide, by decide⟩
theorem dA_41 : Dc method_4_code 41 (.iload_n 3) 1 42 := ⟨by decide +kernel, rfl⟩
theorem dA_42 : Dc method_4_code 42 (.iconst 2) 1 43 := ⟨by decide +kernel, rfl⟩
theorem dA_43 : Db method_4_code 43 (.if_icmp .le 15) 15 46 58 := ⟨by decide +kernel, rfl, by decide, by decide⟩
theorem dA_46 : Dc method_4_code 46 (.aload_n 2) 1 47 := ⟨by decide +kernel, rfl⟩
theorem dA_47 : Dc method_4_code 47 (.iconst 2) 1 48 := ⟨by decide +kernel, rfl⟩
theorem dA_48 : Dc method_4_code 48 .baload 1 49 := ⟨by decide +kernel, rfl⟩
theorem dA_49 : Dc method_4_code 49 (.aload_n 0) 1 50 := ⟨by decide +kernel, rfl⟩
theorem dA_50 : Dc method_4_code 50 (.iload 4) 2 52 := ⟨by decide +kernel, rfl⟩
theorem dA_52 : Dc method_4_code 52 (.iconst 2) 1 53 := ⟨by decide +kernel, rfl⟩
theorem dA_53 : Dc method_4_code 53 .iadd 1 54 := ⟨by decide +kernel, rfl⟩
theorem dA_54 : Dc method_4_code 54 .baload 1 55 := ⟨by decide +kernel, rfl⟩
theorem dA_55 : Db method_4_code 55 (.if_icmp .ne 41) 41 58 96 := ⟨by decide +kernel, rfl, by decide, by decide⟩
theorem dA_58 : Dc method_4_code 58 (.iload_n 3) 1 59 := ⟨by decide +kernel, rfl⟩
theorem dA_59 : Dc method_4_code 59 (.iconst 3) 1 60 := ⟨by decide +kernel, rfl⟩
theorem dA_60 : Db method_4_code 60 (.if_icmp .le 15) 15 63 75 := ⟨by decide +kernel, rfl, by decide, by decide⟩
theorem dA_63 : Dc method_4_code 63 (.aload_n 2) 1 64 := ⟨by decide +kernel, rfl⟩
theorem dA_64 : Dc method_4_code 64 (.iconst 3) 1 65 := ⟨by decide +kernel, rfl⟩
theorem dA_65 : Dc method_4_code 65 .baload 1 66 := ⟨by decide +kernel, rfl⟩
theorem dA_66 : Dc method_4_code 66 (.aload_n 0) 1 67 := ⟨by decide +kernel, rfl⟩
theorem dA_67 : Dc method_4_code 67 (.iload 4) 2 69 := ⟨by decide +kernel, rfl⟩
theorem dA_69 : Dc method_4_code 69 (.iconst 3) 1 70 := ⟨by decide +kernel, rfl⟩
theorem dA_70 : Dc method_4_code 70 .iadd 1 71 := ⟨by decide +kernel, rfl⟩
theorem dA_71 : Dc method_4_code 71 .baload 1 72 := ⟨by decide +kernel, rfl⟩
theorem dA_72 : Db method_4_code 72 (.if_icmp .ne 24) 24 75 96 := ⟨by decide +kernel, rfl, by decide, by decide⟩
theorem dA_75 : Dc method_4_code 75 (.iload_n 3) 1 76 := ⟨by decide +kernel, rfl⟩
theorem dA_76 : Dc method_4_code 76 (.iconst 4) 1 77 := ⟨by decide +kernel, rfl⟩
theorem dA_77 : Db method_4_code 77 (.if_icmp .le 15) 15 80 92 := ⟨by decide +kernel, rfl, by decide, by decide⟩
theorem dA_80 : Dc method_4_code 80 (.aload_n 2) 1 81 := ⟨by decide +kernel, rfl⟩
theorem dA_81 : Dc method_4_code 81 (.iconst 4) 1 82 := ⟨by decide +kernel, rfl⟩
theorem dA_82 : Dc method_4_code 82 .baload 1 83 := ⟨by decide +kernel, rfl⟩
theorem dA_83 : Dc method_4_code 83 (.aload_n 0) 1 84 := ⟨by decide +kernel, rfl⟩
theorem dA_84 : Dc method_4_code 84 (.iload 4) 2 86 := ⟨by decide +kernel, rfl⟩
theorem dA_86 : Dc method_4_code 86 (.iconst 4) 1 87 := ⟨by decide +kernel, rfl⟩
theorem dA_87 : Dc method_4_code 87 .iadd 1 88 := ⟨by decide +kernel, rfl⟩
theorem dA_88 : Dc method_4_code 88 .baload 1 89 := ⟨by decide +kernel, rfl⟩
theorem dA_89 : Db method_4_code 89 (.if_icmp .ne 7) 7 92 96 := ⟨by decide +kernel, rfl, by decide, by decide⟩
theorem dA_92 : Dc method_4_code 92 (.iconst 1) 1 93 := ⟨by decide +kernel, rfl⟩
theorem dA_93 : Db method_4_code 93 (.goto 4) 4 96 97 := ⟨by decide +kernel, rfl, by decide, by decide⟩
theorem efA (m : MethodId) (x0 : Addr) (x1 : Int32) (x2 : Addr) (x3 : Int32) (x4 : Int32) : entryFrame m #[.ref x0, .int x1, .ref x2, .int x3, .int x4] 5 = mkF m 0 #[.val (.ref x0), .val (.int x1), .val (.ref x2), .val (.int x3), .val (.int x4)] [] := by first | (simp [entryFrame, mkF, argsToLocals, Value.category]; done) | rfl
theorem pnA : plainFor (⟨"com/example/briareus/briareus/ByteSearchContainsPinLaw", "at", "([BI[BII)Z"⟩ : MethodName) = true := plainFor_of_name (by first | (simp [plainName, overriddenIn]; done) | decide +kernel)
theorem dF_0 : Dc prog_2_method_3_code 0 (.aload_n 0) 1 1 := ⟨by decide +kernel, rfl⟩
theorem dF_1 : Dc prog_2_method_3_code 1 .arraylength 1 2 := ⟨by decide +kernel, rfl⟩
theorem dF_2 : Dc prog_2_method_3_code 2 (.newarray .int) 2 4 := ⟨by decide +kernel, rfl⟩
set_option maxRecDepth 65536 in
theorem wd20 {Z : State} {a0 : Array Value} (hw : ∀ d ∈ tables_1, d.before a0 Z = true) : (Jvm.Cond.arrayClass Jvm.ClassFile.FieldType.int).before a0 Z = true := hw _ (List.mem_of_getElem? (i := 20) rfl)
theorem dF_4 : Dc prog_2_method_3_code 4 (.astore_n 1) 1 5 := ⟨by decide +kernel, rfl⟩
theorem dF_5 : Dc prog_2_method_3_code 5 (.iconst 0) 1 6 := ⟨by decide +kernel, rfl⟩
theorem dF_6 : Dc prog_2_method_3_code 6 (.istore_n 2) 1 7 := ⟨by decide +kernel, rfl⟩
theorem dF_7 : Dc prog_2_method_3_code 7 (.iconst 1) 1 8 := ⟨by decide +kernel, rfl⟩
theorem dF_8 : Dc prog_2_method_3_code 8 (.istore_n 3) 1 9 := ⟨by decide +kernel, rfl⟩
theorem dF_9 : Dc prog_2_method_3_code 9 (.iload_n 3) 1 10 := ⟨by decide +kernel, rfl⟩
theorem dF_10 : Dc prog_2_method_3_code 10 (.aload_n 0) 1 11 := ⟨by decide +kernel, rfl⟩
theorem dF_11 : Dc prog_2_method_3_code 11 .arraylength 1 12 := ⟨by decide +kernel, rfl⟩
theorem dF_12 : Db prog_2_method_3_code 12 (.if_icmp .ge 47) 47 15 59 := ⟨by decide +kernel, rfl, by decide, by decide⟩
theorem dF_59 : Dc prog_2_method_3_code 59 (.aload_n 1) 1 60 := ⟨by decide +kernel, rfl⟩
theorem dF_60 : Dc prog_2_method_3_code 60 .areturn 1 61 := ⟨by decide +kernel, rfl⟩
theorem dF_49 : Dc prog_2_method_3_code 49 (.aload_n 1) 1 50 := ⟨by decide +kernel, rfl⟩
theorem dF_50 : Dc prog_2_method_3_code 50 (.iload_n 3) 1 51 := ⟨by decide +kernel, rfl⟩
theorem dF_51 : Dc prog_2_method_3_code 51 (.iload_n 2) 1 52 := ⟨by decide +kernel, rfl⟩
theorem dF_52 : Dc prog_2_method_3_code 52 .iastore 1 53 := ⟨by decide +kernel, rfl⟩
theorem dF_53 : Dc prog_2_method_3_code 53 (.iinc 3 1) 3 56 := ⟨by decide +kernel, rfl⟩
theorem dF_56 : Db prog_2_method_3_code 56 (.goto (-47)) (-47) 59 9 := ⟨by decide +kernel, rfl, by decide, by decide⟩
theorem dF_37 : Dc prog_2_method_3_code 37 (.aload_n 0) 1 38 := ⟨by decide +kernel, rfl⟩
theorem dF_38 : Dc prog_2_method_3_code 38 (.iload_n 3) 1 39 := ⟨by decide +kernel, rfl⟩
theorem dF_39 : Dc prog_2_method_3_code 39 .baload 1 40 := ⟨by decide +kernel, rfl⟩
theorem dF_40 : Dc prog_2_method_3_code 40 (.aload_n 0) 1 41 := ⟨by decide +kernel, rfl⟩
theorem dF_41 : Dc prog_2_method_3_code 41 (.iload_n 2) 1 42 := ⟨by decide +kernel, rfl⟩
theorem dF_42 : Dc prog_2_method_3_code 42 .baload 1 43 := ⟨by decide +kernel, rfl⟩
theorem dF_43 : Db prog_2_method_3_code 43 (.if_icmp .ne 6) 6 46 49 := ⟨by decide +kernel, rfl, by decide, by decide⟩
theorem dF_46 : Dc prog_2_method_3_code 46 (.iinc 2 1) 3 49 := ⟨by decide +kernel, rfl⟩
theorem dF_15 : Dc prog_2_method_3_code 15 (.iload_n 2) 1 16 := ⟨by decide +kernel, rfl⟩
theorem dF_16 : Db prog_2_method_3_code 16 (.ifCond .le 21) 21 19 37 := ⟨by decide +kernel, rfl, by decide, by decide⟩
theorem dF_19 : Dc prog_2_method_3_code 19 (.aload_n 0) 1 20 := ⟨by decide +kernel, rfl⟩
theorem dF_20 : Dc prog_2_method_3_code 20 (.iload_n 3) 1 21 := ⟨by decide +kernel, rfl⟩
theorem dF_21 : Dc prog_2_method_3_code 21 .baload 1 22 := ⟨by decide +kernel, rfl⟩
theorem dF_22 : Dc prog_2_method_3_code 22 (.aload_n 0) 1 23 := ⟨by decide +kernel, rfl⟩
theorem dF_23 : Dc prog_2_method_3_code 23 (.iload_n 2) 1 24 := ⟨by decide +kernel, rfl⟩
theorem dF_24 : Dc prog_2_method_3_code 24 .baload 1 25 := ⟨by decide +kernel, rfl⟩
theorem dF_25 : Db prog_2_method_3_code 25 (.if_icmp .eq 12) 12 28 37 := ⟨by decide +kernel, rfl, by decide, by decide⟩
theorem dF_28 : Dc prog_2_method_3_code 28 (.aload_n 1) 1 29 := ⟨by decide +kernel, rfl⟩
theorem dF_29 : Dc prog_2_method_3_code 29 (.iload_n 2) 1 30 := ⟨by decide +kernel, rfl⟩
theorem dF_30 : Dc prog_2_method_3_code 30 (.iconst 1) 1 31 := ⟨by decide +kernel, rfl⟩
theorem dF_31 : Dc prog_2_method_3_code 31 .isub 1 32 := ⟨by decide +kernel, rfl⟩
theorem dF_32 : Dc prog_2_method_3_code 32 .iaload 1 33 := ⟨by decide +kernel, rfl⟩
theorem dF_33 : Dc prog_2_method_3_code 33 (.istore_n 2) 1 34 := ⟨by decide +kernel, rfl⟩
theorem dF_34 : Db prog_2_method_3_code 34 (.goto (-19)) (-19) 37 15 := ⟨by decide +kernel, rfl, by decide, by decide⟩
theorem efF (m : MethodId) (x0 : Addr) : entryFrame m #[.ref x0] 4 = mkF m 0 #[.val (.ref x0), .unset, .unset, .unset] [] := by first | (simp [entryFrame, mkF, argsToLocals, Value.category]; done) | rfl
theorem pnF : plainFor (⟨"com/example/briareus/briareus/ByteSearch", "fallbacks", "([B)[I"⟩ : MethodName) = true := plainFor_of_name (by first | (simp [plainName, overriddenIn]; done) | decide +kernel)
theorem dC_0 : Dc prog_2_method_2_code 0 (.aload_n 1) 1 1 := ⟨by decide +kernel, rfl⟩
theorem dC_1 : Dc prog_2_method_2_code 1 .arraylength 1 2 := ⟨by decide +kernel, rfl⟩
theorem dC_2 : Dc prog_2_method_2_code 2 (.aload_n 0) 1 3 := ⟨by decide +kernel, rfl⟩
theorem dC_3 : Dc prog_2_method_2_code 3 .arraylength 1 4 := ⟨by decide +kernel, rfl⟩
theorem dC_4 : Db prog_2_method_2_code 4 (.if_icmp .le 5) 5 7 9 := ⟨by decide +kernel, rfl, by decide, by decide⟩
theorem dC_7 : Dc prog_2_method_2_code 7 (.iconst 0) 1 8 := ⟨by decide +kernel, rfl⟩
theorem dC_8 : Dc prog_2_method_2_code 8 .ireturn 1 9 := ⟨by decide +kernel, rfl⟩
theorem dC_9 : Dc prog_2_method_2_code 9 (.aload_n 1) 1 10 := ⟨by decide +kernel, rfl⟩
theorem dC_10 : Dc prog_2_method_2_code 10 (.invokestatic 7) 3 13 := ⟨by decide +kernel, rfl⟩
set_option maxRecDepth 65536 in
theorem wd15 {Z : State} {a0 : Array Value} (hw : ∀ d ∈ tables_1, d.before a0 Z = true) : (Jvm.Cond.initialized "com/example/briareus/briareus/ByteSearch").before a0 Z = true := hw _ (List.mem_of_getElem? (i := 15) rfl)
theorem pd_2 : parseMethodDescriptor "([B)[I" = some ⟨[(.array .byte)], some (.array .int)⟩ := by decide +kernel
set_option maxRecDepth 65536 in
theorem wd17 {Z : State} {a0 : Array Value} (hw : ∀ d ∈ tables_1, d.before a0 Z = true) : (Jvm.Cond.methodLink "com/example/briareus/briareus/ByteSearch" (7 : Nat) ({ cls := "com/example/briareus/briareus/ByteSearch", name := "fallbacks", desc := "([B)[I" } : Jvm.MethodName)).before a0 Z = true := hw _ (List.mem_of_getElem? (i := 17) rfl)
set_option maxRecDepth 65536 in
theorem wd18 {Z : State} {a0 : Array Value} (hw : ∀ d ∈ tables_1, d.before a0 Z = true) : (Jvm.Cond.static ({ cls := "com/example/briareus/briareus/ByteSearch", name := "fallbacks", desc := "([B)[I" } : Jvm.MethodName)).before a0 Z = true := hw _ (List.mem_of_getElem? (i := 18) rfl)
set_option maxRecDepth 65536 in
theorem wd19 {Z : State} {a0 : Array Value} (hw : ∀ d ∈ tables_1, d.before a0 Z = true) : (Jvm.Cond.code ({ cls := "com/example/briareus/briareus/ByteSearch", name := "fallbacks", desc := "([B)[I" } : Jvm.MethodName) prog_2_method_3_code (4 : Nat) (Option.some (Jvm.ClassFile.FieldType.array Jvm.ClassFile.FieldType.int))).before a0 Z = true := hw _ (List.mem_of_getElem? (i := 19) rfl)
theorem dC_13 : Dc prog_2_method_2_code 13 (.astore_n 2) 1 14 := ⟨by decide +kernel, rfl⟩
theorem dC_14 : Dc prog_2_method_2_code 14 (.iconst 0) 1 15 := ⟨by decide +kernel, rfl⟩
theorem dC_15 : Dc prog_2_method_2_code 15 (.istore_n 3) 1 16 := ⟨by decide +kernel, rfl⟩
theorem dC_16 : Dc prog_2_method_2_code 16 (.iconst 0) 1 17 := ⟨by decide +kernel, rfl⟩
theorem dC_17 : Dc prog_2_method_2_code 17 (.istore 4) 2 19 := ⟨by decide +kernel, rfl⟩
theorem dC_19 : Dc prog_2_method_2_code 19 (.iload_n 3) 1 20 := ⟨by decide +kernel, rfl⟩
theorem dC_20 : Dc prog_2_method_2_code 20 (.aload_n 1) 1 21 := ⟨by decide +kernel, rfl⟩
theorem dC_21 : Dc prog_2_method_2_code 21 .arraylength 1 22 := ⟨by decide +kernel, rfl⟩
theorem dC_22 : Db prog_2_method_2_code 22 (.if_icmp .ge 54) 54 25 76 := ⟨by decide +kernel, rfl, by decide, by decide⟩
theorem dC_76 : Dc prog_2_method_2_code 76 (.iload_n 3) 1 77 := ⟨by decide +kernel, rfl⟩
theorem dC_77 : Dc prog_2_method_2_code 77 (.aload_n 1) 1 78 := ⟨by decide +kernel, rfl⟩
theorem dC_78 : Dc prog_2_method_2_code 78 .arraylength 1 79 := ⟨by decide +kernel, rfl⟩
theorem dC_79 : Db prog_2_method_2_code 79 (.if_icmp .ne 7) 7 82 86 := ⟨by decide +kernel, rfl, by decide, by decide⟩
theorem dC_82 : Dc prog_2_method_2_code 82 (.iconst 1) 1 83 := ⟨by decide +kernel, rfl⟩
theorem dC_83 : Db prog_2_method_2_code 83 (.goto 4) 4 86 87 := ⟨by decide +kernel, rfl, by decide, by decide⟩
theorem dC_87 : Dc prog_2_method_2_code 87 .ireturn 1 88 := ⟨by decide +kernel, rfl⟩
theorem dC_25 : Dc prog_2_method_2_code 25 (.iload 4) 2 27 := ⟨by decide +kernel, rfl⟩
theorem dC_27 : Dc prog_2_method_2_code 27 (.aload_n 0) 1 28 := ⟨by decide +kernel, rfl⟩
theorem dC_28 : Dc prog_2_method_2_code 28 .arraylength 1 29 := ⟨by decide +kernel, rfl⟩
theorem dC_29 : Db prog_2_method_2_code 29 (.if_icmp .ge 47) 47 32 76 := ⟨by decide +kernel, rfl, by decide, by decide⟩
theorem dC_86 : Dc prog_2_method_2_code 86 (.iconst 0) 1 87 := ⟨by decide +kernel, rfl⟩
theorem dC_70 : Dc prog_2_method_2_code 70 (.iinc 4 1) 3 73 := ⟨by decide +kernel, rfl⟩
theorem dC_73 : Db prog_2_method_2_code 73 (.goto (-54)) (-54) 76 19 := ⟨by decide +kernel, rfl, by decide, by decide⟩
theorem dC_59 : Dc prog_2_method_2_code 59 (.iload 5) 2 61 := ⟨by decide +kernel, rfl⟩
theorem dC_61 : Dc prog_2_method_2_code 61 (.aload_n 1) 1 62 := ⟨by decide +kernel, rfl⟩
theorem dC_62 : Dc prog_2_method_2_code 62 (.iload_n 3) 1 63 := ⟨by decide +kernel, rfl⟩
theorem dC_63 : Dc prog_2_method_2_code 63 .baload 1 64 := ⟨by decide +kernel, rfl⟩
theorem dC_64 : Db prog_2_method_2_code 64 (.if_icmp .ne 6) 6 67 70 := ⟨by decide +kernel, rfl, by decide, by decide⟩
theorem dC_67 : Dc prog_2_method_2_code 67 (.iinc 3 1) 3 70 := ⟨by decide +kernel, rfl⟩
theorem dC_38 : Dc prog_2_method_2_code 38 (.iload_n 3) 1 39 := ⟨by decide +kernel, rfl⟩
theorem dC_39 : Db prog_2_method_2_code 39 (.ifCond .le 20) 20 42 59 := ⟨by decide +kernel, rfl, by decide, by decide⟩
theorem dC_42 : Dc prog_2_method_2_code 42 (.iload 5) 2 44 := ⟨by decide +kernel, rfl⟩
theorem dC_44 : Dc prog_2_method_2_code 44 (.aload_n 1) 1 45 := ⟨by decide +kernel, rfl⟩
theorem dC_45 : Dc prog_2_method_2_code 45 (.iload_n 3) 1 46 := ⟨by decide +kernel, rfl⟩
theorem dC_46 : Dc prog_2_method_2_code 46 .baload 1 47 := ⟨by decide +kernel, rfl⟩
theorem dC_47 : Db prog_2_method_2_code 47 (.if_icmp .eq 12) 12 50 59 := ⟨by decide +kernel, rfl, by decide, by decide⟩
theorem dC_50 : Dc prog_2_method_2_code 50 (.aload_n 2) 1 51 := ⟨by decide +kernel, rfl⟩
theorem dC_51 : Dc prog_2_method_2_code 51 (.iload_n 3) 1 52 := ⟨by decide +kernel, rfl⟩
theorem dC_52 : Dc prog_2_method_2_code 52 (.iconst 1) 1 53 := ⟨by decide +kernel, rfl⟩
theorem dC_53 : Dc prog_2_method_2_code 53 .isub 1 54 := ⟨by decide +kernel, rfl⟩
theorem dC_54 : Dc prog_2_method_2_code 54 .iaload 1 55 := ⟨by decide +kernel, rfl⟩
theorem dC_55 : Dc prog_2_method_2_code 55 (.istore_n 3) 1 56 := ⟨by decide +kernel, rfl⟩
theorem dC_56 : Db prog_2_method_2_code 56 (.goto (-18)) (-18) 59 38 := ⟨by decide +kernel, rfl, by decide, by decide⟩
theorem dC_32 : Dc prog_2_method_2_code 32 (.aload_n 0) 1 33 := ⟨by decide +kernel, rfl⟩
theorem dC_33 : Dc prog_2_method_2_code 33 (.iload 4) 2 35 := ⟨by decide +kernel, rfl⟩
theorem dC_35 : Dc prog_2_method_2_code 35 .baload 1 36 := ⟨by decide +kernel, rfl⟩
theorem dC_36 : Dc prog_2_method_2_code 36 (.istore 5) 2 38 := ⟨by decide +kernel, rfl⟩
theorem efC (m : MethodId) (x0 : Addr) (x1 : Addr) : entryFrame m #[.ref x0, .ref x1] 6 = mkF m 0 #[.val (.ref x0), .val (.ref x1), .unset, .unset, .unset, .unset] [] := by first | (simp [entryFrame, mkF, argsToLocals, Value.category]; done) | rfl
theorem pnC : plainFor (⟨"com/example/briareus/briareus/ByteSearch", "contains", "([B[B)Z"⟩ : MethodName) = true := plainFor_of_name (by first | (simp [plainName, overriddenIn]; done) | decide +kernel)
theorem d0_0 : Dc code 0 (.iload_n 3) 1 1 := ⟨by decide +kernel, rfl⟩
theorem d0_1 : Dc code 1 (.ldc 15) 2 3 := ⟨by decide +kernel, rfl⟩
set_option maxRecDepth 65536 in
theorem wd0 {Z : State} {a0 : Array Value} (hw : ∀ d ∈ tables_1, d.before a0 Z = true) : (Jvm.Cond.constant "com/example/briareus/briareus/ByteSearchContainsPinLaw" (15 : Nat) (2147483647 : Int32)).before a0 Z = true := hw _ (List.mem_of_getElem? (i := 0) rfl)
theorem d0_3 : Dc code 3 .iand 1 4 := ⟨by decide +kernel, rfl⟩
theorem d0_4 : Dc code 4 (.bipush 9) 2 6 := ⟨by decide +kernel, rfl⟩
theorem d0_6 : Dc code 6 .irem 1 7 := ⟨by decide +kernel, rfl⟩
theorem d0_7 : Dc code 7 (.istore 5) 2 9 := ⟨by decide +kernel, rfl⟩
theorem d0_9 : Dc code 9 (.iload_n 3) 1 10 := ⟨by decide +kernel, rfl⟩
theorem d0_10 : Dc code 10 (.bipush 8) 2 12 := ⟨by decide +kernel, rfl⟩
theorem d0_12 : Dc code 12 .iushr 1 13 := ⟨by decide +kernel, rfl⟩
theorem d0_13 : Dc code 13 (.ldc 15) 2 15 := ⟨by decide +kernel, rfl⟩
theorem d0_15 : Dc code 15 .iand 1 16 := ⟨by decide +kernel, rfl⟩
theorem d0_16 : Dc code 16 (.bipush 6) 2 18 := ⟨by decide +kernel, rfl⟩
theorem d0_18 : Dc code 18 .irem 1 19 := ⟨by decide +kernel, rfl⟩
theorem d0_19 : Dc code 19 (.istore 6) 2 21 := ⟨by decide +kernel, rfl⟩
theorem d0_21 : Dc code 21 (.iload 5) 2 23 := ⟨by decide +kernel, rfl⟩
theorem d0_23 : Dc code 23 (.iload 4) 2 25 := ⟨by decide +kernel, rfl⟩
theorem d0_25 : Dc code 25 (.lload_n 0) 1 26 := ⟨by decide +kernel, rfl⟩
theorem d0_26 : Dc code 26 (.invokestatic 16) 3 29 := ⟨by decide +kernel, rfl⟩
theorem pd_3 : parseMethodDescriptor "(IIJ)[B" = some ⟨[.int, .int, .long], some (.array .byte)⟩ := by decide +kernel
set_option maxRecDepth 65536 in
theorem wd1 {Z : State} {a0 : Array Value} (hw : ∀ d ∈ tables_1, d.before a0 Z = true) : (Jvm.Cond.methodLink "com/example/briareus/briareus/ByteSearchContainsPinLaw" (16 : Nat) ({ cls := "com/example/briareus/briareus/ByteSearchContainsPinLaw", name := "make", desc := "(IIJ)[B" } : Jvm.MethodName)).before a0 Z = true := hw _ (List.mem_of_getElem? (i := 1) rfl)
set_option maxRecDepth 65536 in
theorem wd2 {Z : State} {a0 : Array Value} (hw : ∀ d ∈ tables_1, d.before a0 Z = true) : (Jvm.Cond.static ({ cls := "com/example/briareus/briareus/ByteSearchContainsPinLaw", name := "make", desc := "(IIJ)[B" } : Jvm.MethodName)).before a0 Z = true := hw _ (List.mem_of_getElem? (i := 2) rfl)
set_option maxRecDepth 65536 in
theorem wd4 {Z : State} {a0 : Array Value} (hw : ∀ d ∈ tables_1, d.before a0 Z = true) : (Jvm.Cond.code ({ cls := "com/example/briareus/briareus/ByteSearchContainsPinLaw", name := "make", desc := "(IIJ)[B" } : Jvm.MethodName) method_3_code (5 : Nat) (Option.some (Jvm.ClassFile.FieldType.array Jvm.ClassFile.FieldType.byte))).before a0 Z = true := hw _ (List.mem_of_getElem? (i := 4) rfl)
theorem d0_29 : Dc code 29 (.astore 7) 2 31 := ⟨by decide +kernel, rfl⟩
theorem d0_31 : Dc code 31 (.iload 6) 2 33 := ⟨by decide +kernel, rfl⟩
theorem d0_33 : Dc code 33 (.iload 4) 2 35 := ⟨by decide +kernel, rfl⟩
theorem d0_35 : Dc code 35 (.iload_n 2) 1 36 := ⟨by decide +kernel, rfl⟩
theorem d0_36 : Dc code 36 .i2l 1 37 := ⟨by decide +kernel, rfl⟩
theorem d0_37 : Dc code 37 (.invokestatic 16) 3 40 := ⟨by decide +kernel, rfl⟩
theorem d0_40 : Dc code 40 (.astore 8) 2 42 := ⟨by decide +kernel, rfl⟩
theorem d0_42 : Dc code 42 (.aload 7) 2 44 := ⟨by decide +kernel, rfl⟩
theorem d0_44 : Dc code 44 (.iload 5) 2 46 := ⟨by decide +kernel, rfl⟩
theorem d0_46 : Dc code 46 (.aload 8) 2 48 := ⟨by decide +kernel, rfl⟩
theorem d0_48 : Dc code 48 (.iload 6) 2 50 := ⟨by decide +kernel, rfl⟩
theorem d0_50 : Dc code 50 (.iconst 0) 1 51 := ⟨by decide +kernel, rfl⟩
theorem d0_51 : Dc code 51 (.invokestatic 20) 3 54 := ⟨by decide +kernel, rfl⟩
theorem pd_4 : parseMethodDescriptor "([BI[BII)Z" = some ⟨[(.array .byte), .int, (.array .byte), .int, .int], some .boolean⟩ := by decide +kernel
set_option maxRecDepth 65536 in
theorem wd10 {Z : State} {a0 : Array Value} (hw : ∀ d ∈ tables_1, d.before a0 Z = true) : (Jvm.Cond.methodLink "com/example/briareus/briareus/ByteSearchContainsPinLaw" (20 : Nat) ({ cls := "com/example/briareus/briareus/ByteSearchContainsPinLaw", name := "at", desc := "([BI[BII)Z" } : Jvm.MethodName)).before a0 Z = true := hw _ (List.mem_of_getElem? (i := 10) rfl)
set_option maxRecDepth 65536 in
theorem wd11 {Z : State} {a0 : Array Value} (hw : ∀ d ∈ tables_1, d.before a0 Z = true) : (Jvm.Cond.static ({ cls := "com/example/briareus/briareus/ByteSearchContainsPinLaw", name := "at", desc := "([BI[BII)Z" } : Jvm.MethodName)).before a0 Z = true := hw _ (List.mem_of_getElem? (i := 11) rfl)
set_option maxRecDepth 65536 in
theorem wd12 {Z : State} {a0 : Array Value} (hw : ∀ d ∈ tables_1, d.before a0 Z = true) : (Jvm.Cond.code ({ cls := "com/example/briareus/briareus/ByteSearchContainsPinLaw", name := "at", desc := "([BI[BII)Z" } : Jvm.MethodName) method_4_code (5 : Nat) (Option.some Jvm.ClassFile.FieldType.boolean)).before a0 Z = true := hw _ (List.mem_of_getElem? (i := 12) rfl)
theorem d0_54 : Db code 54 (.ifCond .ne 126) 126 57 180 := ⟨by decide +kernel, rfl, by decide, by decide⟩
theorem d0_57 : Dc code 57 (.aload 7) 2 59 := ⟨by decide +kernel, rfl⟩
theorem d0_59 : Dc code 59 (.iload 5) 2 61 := ⟨by decide +kernel, rfl⟩
theorem d0_61 : Dc code 61 (.aload 8) 2 63 := ⟨by decide +kernel, rfl⟩
theorem d0_63 : Dc code 63 (.iload 6) 2 65 := ⟨by decide +kernel, rfl⟩
theorem d0_65 : Dc code 65 (.iconst 1) 1 66 := ⟨by decide +kernel, rfl⟩
theorem d0_66 : Dc code 66 (.invokestatic 20) 3 69 := ⟨by decide +kernel, rfl⟩
theorem d0_69 : Db code 69 (.ifCond .ne 111) 111 72 180 := ⟨by decide +kernel, rfl, by decide, by decide⟩
theorem d0_72 : Dc code 72 (.aload 7) 2 74 := ⟨by decide +kernel, rfl⟩
theorem d0_74 : Dc code 74 (.iload 5) 2 76 := ⟨by decide +kernel, rfl⟩
theorem d0_76 : Dc code 76 (.aload 8) 2 78 := ⟨by decide +kernel, rfl⟩
theorem d0_78 : Dc code 78 (.iload 6) 2 80 := ⟨by decide +kernel, rfl⟩
theorem d0_80 : Dc code 80 (.iconst 2) 1 81 := ⟨by decide +kernel, rfl⟩
theorem d0_81 : Dc code 81 (.invokestatic 20) 3 84 := ⟨by decide +kernel, rfl⟩
theorem d0_84 : Db code 84 (.ifCond .ne 96) 96 87 180 := ⟨by decide +kernel, rfl, by decide, by decide⟩
theorem d0_87 : Dc code 87 (.aload 7) 2 89 := ⟨by decide +kernel, rfl⟩
theorem d0_89 : Dc code 89 (.iload 5) 2 91 := ⟨by decide +kernel, rfl⟩
theorem d0_91 : Dc code 91 (.aload 8) 2 93 := ⟨by decide +kernel, rfl⟩
theorem d0_93 : Dc code 93 (.iload 6) 2 95 := ⟨by decide +kernel, rfl⟩
theorem d0_95 : Dc code 95 (.iconst 3) 1 96 := ⟨by decide +kernel, rfl⟩
theorem d0_96 : Dc code 96 (.invokestatic 20) 3 99 := ⟨by decide +kernel, rfl⟩
theorem d0_99 : Db code 99 (.ifCond .ne 81) 81 102 180 := ⟨by decide +kernel, rfl, by decide, by decide⟩
theorem d0_102 : Dc code 102 (.aload 7) 2 104 := ⟨by decide +kernel, rfl⟩
theorem d0_104 : Dc code 104 (.iload 5) 2 106 := ⟨by decide +kernel, rfl⟩
theorem d0_106 : Dc code 106 (.aload 8) 2 108 := ⟨by decide +kernel, rfl⟩
theorem d0_108 : Dc code 108 (.iload 6) 2 110 := ⟨by decide +kernel, rfl⟩
theorem d0_110 : Dc code 110 (.iconst 4) 1 111 := ⟨by decide +kernel, rfl⟩
theorem d0_111 : Dc code 111 (.invokestatic 20) 3 114 := ⟨by decide +kernel, rfl⟩
theorem d0_114 : Db code 114 (.ifCond .ne 66) 66 117 180 := ⟨by decide +kernel, rfl, by decide, by decide⟩
theorem d0_117 : Dc code 117 (.aload 7) 2 119 := ⟨by decide +kernel, rfl⟩
theorem d0_119 : Dc code 119 (.iload 5) 2 121 := ⟨by decide +kernel, rfl⟩
theorem d0_121 : Dc code 121 (.aload 8) 2 123 := ⟨by decide +kernel, rfl⟩
theorem d0_123 : Dc code 123 (.iload 6) 2 125 := ⟨by decide +kernel, rfl⟩
theorem d0_125 : Dc code 125 (.iconst 5) 1 126 := ⟨by decide +kernel, rfl⟩
theorem d0_126 : Dc code 126 (.invokestatic 20) 3 129 := ⟨by decide +kernel, rfl⟩
theorem d0_129 : Db code 129 (.ifCond .ne 51) 51 132 180 := ⟨by decide +kernel, rfl, by decide, by decide⟩
theorem d0_132 : Dc code 132 (.aload 7) 2 134 := ⟨by decide +kernel, rfl⟩
theorem d0_134 : Dc code 134 (.iload 5) 2 136 := ⟨by decide +kernel, rfl⟩
theorem d0_136 : Dc code 136 (.aload 8) 2 138 := ⟨by decide +kernel, rfl⟩
theorem d0_138 : Dc code 138 (.iload 6) 2 140 := ⟨by decide +kernel, rfl⟩
theorem d0_140 : Dc code 140 (.bipush 6) 2 142 := ⟨by decide +kernel, rfl⟩
theorem d0_142 : Dc code 142 (.invokestatic 20) 3 145 := ⟨by decide +kernel, rfl⟩
theorem d0_145 : Db code 145 (.ifCond .ne 35) 35 148 180 := ⟨by decide +kernel, rfl, by decide, by decide⟩
theorem d0_148 : Dc code 148 (.aload 7) 2 150 := ⟨by decide +kernel, rfl⟩
theorem d0_150 : Dc code 150 (.iload 5) 2 152 := ⟨by decide +kernel, rfl⟩
theorem d0_152 : Dc code 152 (.aload 8) 2 154 := ⟨by decide +kernel, rfl⟩
theorem d0_154 : Dc code 154 (.iload 6) 2 156 := ⟨by decide +kernel, rfl⟩
theorem d0_156 : Dc code 156 (.bipush 7) 2 158 := ⟨by decide +kernel, rfl⟩
theorem d0_158 : Dc code 158 (.invokestatic 20) 3 161 := ⟨by decide +kernel, rfl⟩
theorem d0_161 : Db code 161 (.ifCond .ne 19) 19 164 180 := ⟨by decide +kernel, rfl, by decide, by decide⟩
theorem d0_164 : Dc code 164 (.aload 7) 2 166 := ⟨by decide +kernel, rfl⟩
theorem d0_166 : Dc code 166 (.iload 5) 2 168 := ⟨by decide +kernel, rfl⟩
theorem d0_168 : Dc code 168 (.aload 8) 2 170 := ⟨by decide +kernel, rfl⟩
theorem d0_170 : Dc code 170 (.iload 6) 2 172 := ⟨by decide +kernel, rfl⟩
theorem d0_172 : Dc code 172 (.bipush 8) 2 174 := ⟨by decide +kernel, rfl⟩
theorem d0_174 : Dc code 174 (.invokestatic 20) 3 177 := ⟨by decide +kernel, rfl⟩
theorem d0_177 : Db code 177 (.ifCond .eq 7) 7 180 184 := ⟨by decide +kernel, rfl, by decide, by decide⟩
theorem d0_184 : Dc code 184 (.iconst 0) 1 185 := ⟨by decide +kernel, rfl⟩
theorem d0_180 : Dc code 180 (.iconst 1) 1 181 := ⟨by decide +kernel, rfl⟩
theorem d0_181 : Db code 181 (.goto 4) 4 184 185 := ⟨by decide +kernel, rfl, by decide, by decide⟩
theorem d0_185 : Dc code 185 (.istore 9) 2 187 := ⟨by decide +kernel, rfl⟩
theorem d0_187 : Dc code 187 (.aload 7) 2 189 := ⟨by decide +kernel, rfl⟩
theorem d0_189 : Dc code 189 (.aload 8) 2 191 := ⟨by decide +kernel, rfl⟩
theorem d0_191 : Dc code 191 (.invokestatic 24) 3 194 := ⟨by decide +kernel, rfl⟩
theorem pd_5 : parseMethodDescriptor "([B[B)Z" = some ⟨[(.array .byte), (.array .byte)], some .boolean⟩ := by decide +kernel
set_option maxRecDepth 65536 in
theorem wd13 {Z : State} {a0 : Array Value} (hw : ∀ d ∈ tables_1, d.before a0 Z = true) : (Jvm.Cond.methodLink "com/example/briareus/briareus/ByteSearchContainsPinLaw" (24 : Nat) ({ cls := "com/example/briareus/briareus/ByteSearch", name := "contains", desc := "([B[B)Z" } : Jvm.MethodName)).before a0 Z = true := hw _ (List.mem_of_getElem? (i := 13) rfl)
set_option maxRecDepth 65536 in
theorem wd14 {Z : State} {a0 : Array Value} (hw : ∀ d ∈ tables_1, d.before a0 Z = true) : (Jvm.Cond.static ({ cls := "com/example/briareus/briareus/ByteSearch", name := "contains", desc := "([B[B)Z" } : Jvm.MethodName)).before a0 Z = true := hw _ (List.mem_of_getElem? (i := 14) rfl)
set_option maxRecDepth 65536 in
theorem wd16 {Z : State} {a0 : Array Value} (hw : ∀ d ∈ tables_1, d.before a0 Z = true) : (Jvm.Cond.code ({ cls := "com/example/briareus/briareus/ByteSearch", name := "contains", desc := "([B[B)Z" } : Jvm.MethodName) prog_2_method_2_code (6 : Nat) (Option.some Jvm.ClassFile.FieldType.boolean)).before a0 Z = true := hw _ (List.mem_of_getElem? (i := 16) rfl)
theorem d0_194 : Dc code 194 (.iload 9) 2 196 := ⟨by decide +kernel, rfl⟩
theorem d0_196 : Db code 196 (.if_icmp .ne 7) 7 199 203 := ⟨by decide +kernel, rfl, by decide, by decide⟩
theorem d0_199 : Dc code 199 (.iconst 1) 1 200 := ⟨by decide +kernel, rfl⟩
theorem d0_200 : Db code 200 (.goto 4) 4 203 204 := ⟨by decide +kernel, rfl, by decide, by decide⟩
theorem d0_204 : Dc code 204 .ireturn 1 205 := ⟨by decide +kernel, rfl⟩
theorem ef0 (m : MethodId) (x0 : Int64) (x1 : Int32) (x2 : Int32) (x3 : Int32) : entryFrame m #[.long x0, .int x1, .int x2, .int x3] maxLocals = mkF m 0 #[.val (.long x0), .second, .val (.int x1), .val (.int x2), .val (.int x3), .unset, .unset, .unset, .unset, .unset] [] := by first | (simp [entryFrame, mkF, argsToLocals, Value.category, maxLocals]; done) | rfl
theorem pn0 : plainFor (x : MethodName) = true := plainFor_of_name (by show plainName "com/example/briareus/briareus/ByteSearchContainsPinLaw" = true; first | (simp [plainName, overriddenIn]; done) | decide +kernel)
def own_letter (a : Int32) (c : Int64) (i : Int32) : Int32 := ((a.toUInt32 >>> ((8 * ((c.toUInt64 >>> ((2 * i) &&& 63).toInt64.toUInt64).toInt64 &&& 3).toInt32) &&& 31).toUInt32).toInt32).toInt8.toInt32
/-! plain facts: prefixes, borders (Knuth, Morris, Pratt) -/
/-- the last k of t's first e signs are r's first k -/
def Sfx (t r : Nat → Int32) (e k : Nat) : Prop := k ≤ e ∧ ∀ j, j < k → t (e - k + j) = r j
theorem Sfx.zero (t r : Nat → Int32) (e : Nat) : Sfx t r e 0 := ⟨Nat.zero_le _, fun j h => absurd h (by omega)⟩
theorem Sfx.down {t r : Nat → Int32} {e q k : Nat} (h : Sfx t r e q) (hk : Sfx t r e k) (hkq : k ≤ q) : Sfx r r q k := by
  refine ⟨hkq, fun j hj => ?_⟩
  have h0 := h.1
  have h1 := hk.2 j hj
  have h2 := h.2 (q - k + j) (by omega)
  rw [show e - q + (q - k + j) = e - k + j by omega] at h2
  rw [← h2, h1]
theorem Sfx.up {t r : Nat → Int32} {e q k : Nat} (h : Sfx t r e q) (hk : Sfx r r q k) : Sfx t r e k := by
  have h0 := h.1
  have h3 := hk.1
  refine ⟨by omega, fun j hj => ?_⟩
  have h1 := hk.2 j hj
  have h2 := h.2 (q - k + j) (by omega)
  rw [show e - q + (q - k + j) = e - k + j by omega] at h2
  rw [h2, h1]
theorem Sfx.succ {t r : Nat → Int32} {e k : Nat} (h : Sfx t r e k) (hb : t e = r k) : Sfx t r (e + 1) (k + 1) := by
  have h0 := h.1
  refine ⟨by omega, fun j hj => ?_⟩
  rw [show e + 1 - (k + 1) + j = e - k + j by omega]
  by_cases q : j < k
  · exact h.2 j q
  · have : j = k := by omega
    subst this
    rw [show e - j + j = e by omega]; exact hb
theorem Sfx.pred {t r : Nat → Int32} {e k : Nat} (h : Sfx t r (e + 1) (k + 1)) : Sfx t r e k ∧ t e = r k := by
  have h0 := h.1
  refine ⟨⟨by omega, fun j hj => ?_⟩, ?_⟩
  · have := h.2 j (by omega)
    rw [show e + 1 - (k + 1) + j = e - k + j by omega] at this; exact this
  · have := h.2 k (by omega)
    rw [show e + 1 - (k + 1) + k = e by omega] at this; exact this
/-- the greatest below B -/
def Best (t r : Nat → Int32) (B e q : Nat) : Prop := Sfx t r e q ∧ q < B ∧ ∀ k, k < B → Sfx t r e k → k ≤ q
/-- what lies above q does not go on -/
def Cand (t r : Nat → Int32) (B e q : Nat) : Prop := Sfx t r e q ∧ q < B ∧ ∀ k, k < B → Sfx t r e k → q < k → t e ≠ r k
theorem Best.cand {t r : Nat → Int32} {B e q : Nat} (h : Best t r B e q) : Cand t r B e q := ⟨h.1, h.2.1, fun k hk hs hq => by have := h.2.2 k hk hs; omega⟩
theorem Best.one (r : Nat → Int32) : Best r r 1 1 0 := ⟨Sfx.zero _ _ _, by omega, fun k hk _ => by omega⟩
theorem Best.zero {b r : Nat → Int32} {m : Nat} (h : 0 < m) : Best b r m 0 0 := ⟨Sfx.zero _ _ _, h, fun k _ hs => hs.1⟩
theorem Cand.fall {t r : Nat → Int32} {B e k f : Nat} (h : Cand t r B e (k + 1)) (hne : ¬ t e = r (k + 1)) (hf : Best r r (k + 1) (k + 1) f) : Cand t r B e f := by
  refine ⟨h.1.up hf.1, by have := hf.2.1; have := h.2.1; omega, fun j hj hs hk2 => ?_⟩
  rcases Nat.lt_trichotomy j (k + 1) with c | c | c
  · have := hf.2.2 j c (h.1.down hs (by omega)); omega
  · subst c; exact hne
  · exact h.2.2 j hj hs c
theorem Cand.hit {t r : Nat → Int32} {B e q : Nat} (h : Cand t r B e q) (hb : t e = r q) : Best t r (B + 1) (e + 1) (q + 1) := by
  refine ⟨h.1.succ hb, by have := h.2.1; omega, fun k hk hs => ?_⟩
  cases k with
  | zero => omega
  | succ k =>
    obtain ⟨p1, p2⟩ := hs.pred
    by_cases c : q < k
    · exact absurd p2 (h.2.2 k (by omega) p1 c)
    · omega
theorem Cand.miss {t r : Nat → Int32} {B e : Nat} (h : Cand t r B e 0) (hb : ¬ t e = r 0) : Best t r (B + 1) (e + 1) 0 := by
  refine ⟨Sfx.zero _ _ _, by omega, fun k hk hs => ?_⟩
  cases k with
  | zero => omega
  | succ k =>
    obtain ⟨p1, p2⟩ := hs.pred
    by_cases c : 0 < k
    · exact absurd p2 (h.2.2 k (by omega) p1 c)
    · have : k = 0 := by omega
      subst this; exact absurd p2 hb
def own_has (n m : Nat) (b r : Nat → Int32) : Prop := ∃ e, e + m ≤ n ∧ ∀ j, j < m → b (e + j) = r j
theorem own_none {n m : Nat} {b r : Nat → Int32} (h : ∀ e, e ≤ n → ¬ Sfx b r e m) : ¬ own_has n m b r := by
  rintro ⟨e, h1, h2⟩
  exact h (e + m) h1 ⟨by omega, fun j hj => by rw [show e + m - m + j = e + j by omega]; exact h2 j hj⟩
theorem own_found {n m i : Nat} {b r : Nat → Int32} (hi : i ≤ n) (h : Sfx b r i m) : own_has n m b r :=
  ⟨i - m, by have := h.1; omega, fun j hj => h.2 j hj⟩
def own_at (n m e : Nat) (b r : Nat → Int32) : Int32 := if e + m ≤ n ∧ ∀ j, j < m → b (e + j) = r j then 1 else 0
theorem own_at1 {n m e : Nat} {b r : Nat → Int32} (h : e + m ≤ n ∧ ∀ j, j < m → b (e + j) = r j) : own_at n m e b r = 1 := if_pos h
theorem own_at0 {n m e : Nat} {b r : Nat → Int32} (h : ¬ (e + m ≤ n ∧ ∀ j, j < m → b (e + j) = r j)) : own_at n m e b r = 0 := if_neg h
theorem own_at_one {n m e : Nat} {b r : Nat → Int32} (h : ¬ own_at n m e b r = 0) : own_at n m e b r = 1 := by
  by_cases q : e + m ≤ n ∧ ∀ j, j < m → b (e + j) = r j
  · exact own_at1 q
  · exact absurd (own_at0 q) h
theorem own_upto {e : Nat} (h : e ≤ 8) : e = 0 ∨ e = 1 ∨ e = 2 ∨ e = 3 ∨ e = 4 ∨ e = 5 ∨ e = 6 ∨ e = 7 ∨ e = 8 := by omega
theorem own_final {n m : Nat} {b r : Nat → Int32} {z z' : Int32} (hn : n ≤ 8) (h : z = 1 ∧ own_has n m b r ∨ z = 0 ∧ ¬ own_has n m b r) (h' : z' = 1 ∧ (∃ e, e ≤ 8 ∧ own_at n m e b r = 1) ∨ z' = 0 ∧ ∀ e, e ≤ 8 → own_at n m e b r = 0) : z = z' := by
  rcases h with ⟨rfl, e, h1, h2⟩ | ⟨rfl, h⟩
  · rcases h' with ⟨rfl, -⟩ | ⟨-, h'⟩
    · rfl
    · have := h' e (by omega)
      rw [own_at1 ⟨h1, h2⟩] at this
      exact absurd this (by decide)
  · rcases h' with ⟨-, e, h1, h2⟩ | ⟨rfl, -⟩
    · by_cases q : e + m ≤ n ∧ ∀ j, j < m → b (e + j) = r j
      · exact absurd ⟨e, q⟩ h
      · rw [own_at0 q] at h2; exact absurd h2 (by decide)
    · rfl
/-! small numbers as ints -/
theorem own_nn {i : Nat} (h : i < 2 ^ 31) : ¬ Int32.ofNat i < 0 := by
  rw [Int32.lt_iff_toInt_lt, toInt_of rfl h]
  have : (0 : Int32).toInt = 0 := rfl
  omega
theorem own_lt {i j : Nat} (hi : i < 2 ^ 31) (hj : j < 2 ^ 31) : Int32.ofNat i < Int32.ofNat j ↔ i < j := by
  rw [Int32.lt_iff_toInt_lt, toInt_of rfl hi, toInt_of rfl hj]; omega
theorem own_inj {i j : Nat} (hi : i < 2 ^ 31) (hj : j < 2 ^ 31) (h : Int32.ofNat i = Int32.ofNat j) : i = j := by
  have := congrArg Int32.toInt h
  rw [toInt_of rfl hi, toInt_of rfl hj] at this; omega
theorem own_addn (i j : Nat) : Int32.ofNat i + Int32.ofNat j = Int32.ofNat (i + j) := (Int32.ofNat_add i j).symm
theorem own_pred {k : Nat} (h : 0 < Int32.ofNat k) : ∃ k2, k = k2 + 1 := by
  cases k with
  | zero => exact absurd h (by decide)
  | succ k => exact ⟨k, rfl⟩
theorem own_zero {k : Nat} (hk : k < 2 ^ 31) (h : ¬ 0 < Int32.ofNat k) : k = 0 := by
  rw [Int32.lt_iff_toInt_lt, toInt_of rfl hk] at h
  have : (0 : Int32).toInt = 0 := rfl
  omega
theorem own_rem (x : Int32) (k : Int32) (K : Nat) (hk : k.toInt = K + 1) (hk2 : K < 2 ^ 31) : ∃ n : Nat, (x &&& 2147483647) % k = Int32.ofNat n ∧ n ≤ K := by
  have h1 := c_mask x 2147483647 31 (by decide) (by decide)
  have h2 := (c_irem (x &&& 2147483647) k _ hk).1 (by omega)
  have h3 := Int.emod_nonneg (x &&& 2147483647).toInt (show ((K : Int) + 1) ≠ 0 by omega)
  have h4 := Int.emod_lt_of_pos (x &&& 2147483647).toInt (show 0 < ((K : Int) + 1) by omega)
  refine ⟨((x &&& 2147483647) % k).toInt.toNat, ?_, by omega⟩
  apply Int32.toInt_inj.mp
  rw [toInt_of rfl (by omega)]
  omega
/-! arrays of bytes and of small numbers -/
def bytesF (b : Nat → Int32) : Int32 → Value := fun j => .int (b j.toNatClampNeg)
def intsF (g : Nat → Nat) : Int32 → Value := fun j => .int (Int32.ofNat (g j.toNatClampNeg))
theorem own_rd (b : Nat → Int32) {i : Nat} (h : i < 2 ^ 31) : bytesF b (Int32.ofNat i) = .int (b i) := by
  unfold bytesF; rw [clamp_of rfl h]
theorem own_ri (g : Nat → Nat) {i : Nat} (h : i < 2 ^ 31) : intsF g (Int32.ofNat i) = .int (Int32.ofNat (g i)) := by
  unfold intsF; rw [clamp_of rfl h]
theorem own_clamp {j : Int32} {i : Nat} (hj : ¬ j < 0) (hi : i < 2 ^ 31) : j = Int32.ofNat i ↔ j.toNatClampNeg = i := by
  constructor
  · rintro rfl; exact clamp_of rfl hi
  · intro q
    apply Int32.toInt_inj.mp
    rw [toInt_of rfl hi, nat_of hj, q]
theorem own_ints (g : Nat → Nat) {i k : Nat} {N : Int32} (hi : i < 2 ^ 31) (j : Int32) (h1 : ¬ j < 0) (h2 : j < N) : (if j = Int32.ofNat i then Value.int (Int32.ofNat k) else intsF g j) = intsF (fun j => if j = i then k else g j) j := by
  show (if j = Int32.ofNat i then Value.int (Int32.ofNat k) else Value.int (Int32.ofNat (g j.toNatClampNeg))) = Value.int (Int32.ofNat (if j.toNatClampNeg = i then k else g j.toNatClampNeg))
  by_cases q : j = Int32.ofNat i
  · rw [if_pos q, if_pos ((own_clamp h1 hi).mp q)]
  · rw [if_neg q, if_neg (fun u => q ((own_clamp h1 hi).mpr u))]
def own_lets (q : Int32) (c : Int64) : Nat → Int32 := fun j => own_letter q c (Int32.ofNat j)
def own_fill (q : Int32) (c : Int64) (k : Nat) : Nat → Int32 := fun j => if j < k then own_letter q c (Int32.ofNat j) else 0
theorem own_nb (x : Int32) : narrow .byte (.int x.toInt8.toInt32) = .int x.toInt8.toInt32 := by
  show Value.int x.toInt8.toInt32.toInt8.toInt32 = _
  rw [Int8.toInt8_toInt32]
theorem own_lb (q : Int32) (c : Int64) (i : Int32) : (own_letter q c i).toInt8.toInt32 = own_letter q c i := by
  unfold own_letter
  rw [Int8.toInt8_toInt32]
theorem own_fill_step (q : Int32) (c : Int64) {k n : Nat} (hk : k < n) (h31 : k < 2 ^ 31) (j : Int32) (h1 : ¬ j < 0) (h2 : j < Int32.ofNat n) : (if j = Int32.ofNat k then Value.int (own_letter q c (Int32.ofNat k)).toInt8.toInt32 else bytesF (own_fill q c k) j) = bytesF (own_fill q c (k + 1)) j := by
  unfold bytesF own_fill
  by_cases u : j = Int32.ofNat k
  · rw [if_pos u, own_lb]
    have := (own_clamp h1 h31).mp u
    rw [this, if_pos (by omega)]
  · rw [if_neg u]
    have : ¬ j.toNatClampNeg = k := fun q => u ((own_clamp h1 h31).mpr q)
    by_cases v : j.toNatClampNeg < k
    · rw [if_pos v, if_pos (by omega)]
    · rw [if_neg v, if_neg (by omega)]
theorem own_below {j : Int32} {n : Nat} (hn : n < 2 ^ 31) (h1 : ¬ j < 0) (h2 : j < Int32.ofNat n) : j.toNatClampNeg < n := by
  rw [Int32.lt_iff_toInt_lt, toInt_of rfl hn, nat_of h1] at h2; omega
theorem own_fill_skip (q : Int32) (c : Int64) {k n : Nat} (hn : n < 2 ^ 31) (hk : ¬ k < n) (j : Int32) (h1 : ¬ j < 0) (h2 : j < Int32.ofNat n) : bytesF (own_fill q c k) j = bytesF (own_fill q c (k + 1)) j := by
  have := own_below hn h1 h2
  unfold bytesF own_fill
  rw [if_pos (by omega), if_pos (by omega)]
theorem own_fill_all (q : Int32) (c : Int64) {n : Nat} (hn : n < 2 ^ 31) (h8 : n ≤ 8) (j : Int32) (h1 : ¬ j < 0) (h2 : j < Int32.ofNat n) : bytesF (own_fill q c 8) j = bytesF (own_lets q c) j := by
  have := own_below hn h1 h2
  unfold bytesF own_fill own_lets
  rw [if_pos (by omega)]

set_option maxRecDepth 65536 in
set_option maxHeartbeats 40000000 in
theorem rmL (l : Launch) (Z : State) (a0 : Array Value) (hw : ∀ d ∈ tables_1, d.before a0 Z = true) (a : Int32) (c : Int64) (i : Int32) (h : Heap) (n0 : Nat)  : Con l Z ⟨"com/example/briareus/briareus/ByteSearchContainsPinLaw", "letter", "(IJI)B"⟩ method_2_code 5 (some .byte) ({ frames := 0, cells := 0, slots := 0, locals := 0 } : Room) #[.int a, .long c, .int i] h n0 (fun vr h' => vr = some (.int (own_letter a c i)) ∧ h' = h) := by
  refine Con.of pnL (fun m_ => efL m_ a c i) (fun E K => ?_)
  refine K.lloadN dL_0 rfl ?_
  refine K.iconst (2 : Int32) dL_1 rfl ?_
  refine K.iloadN dL_2 rfl ?_
  refine K.imul dL_3 ?_
  refine K.lushr dL_4 ?_
  refine K.ldc2J dL_5 (wd9 hw) ?_
  refine K.land dL_8 ?_
  refine K.l2i dL_9 ?_
  refine K.istore #[.val (.int a), .val (.long c), .second, .val (.int i), .val (.int ((((c.toUInt64 >>> (((2 : Int32) * i) &&& 63).toInt64.toUInt64).toInt64) &&& (3 : Int64)).toInt32))] dL_10 rfl ?_
  refine K.iloadN dL_12 rfl ?_
  refine K.bipush (8 : Int32) dL_13 rfl ?_
  refine K.iload dL_15 rfl ?_
  refine K.imul dL_17 ?_
  refine K.iushr dL_18 ?_
  refine K.i2b dL_19 ?_
  exact K.ireturn dL_20 (Or.inr (Or.inr (Or.inl rfl))) (own_nb _) (by decide) (by decide) ⟨rfl, rfl⟩
set_option maxRecDepth 65536 in
set_option maxHeartbeats 40000000 in
theorem rmM (l : Launch) (Z : State) (a0 : Array Value) (hw : ∀ d ∈ tables_1, d.before a0 Z = true) (n : Nat) (q : Int32) (c : Int64) (h : Heap) (n0 : Nat) (hn : n ≤ 8) : Con l Z ⟨"com/example/briareus/briareus/ByteSearchContainsPinLaw", "make", "(IIJ)[B"⟩ method_3_code 5 (some (.array .byte)) ({ frames := 1, cells := 1, slots := 8, locals := 18 } : Room) #[.int (Int32.ofNat n), .int q, .long c] h n0 (fun v h' => ∃ t, v = some (.ref t) ∧ (Keep h h' [] ∧ h.size ≤ t ∧ Ia Z h' t .byte (Int32.ofNat n) (bytesF (own_lets q c)) ∧ n0 ≤ t)) := by
  refine Con.of pnM (fun m_ => efM m_ (Int32.ofNat n) q c) (fun E K => ?_)
  have K1 : Keep h h [] := Keep.refl _ _
  refine K.iloadN dM_0 rfl ?_
  refine K.newP (ty := .byte) (dv := .int 0) 8 1 8 dM_1 (wd5 hw) rfl rfl (own_nn (by omega)) (by rw [clamp_of rfl (by omega)]; exact hn) (by decide) rfl rfl (by decide) (by decide) (fun h3 a2 ha4 g5 X6 A7 => ?_)
  have ks_a2 := ha_ge K1.1 ha4
  have K8 := K1.ext X6
  refine K.astore #[.val (.int (Int32.ofNat n)), .val (.int q), .val (.long c), .second, .val (.ref a2)] dM_3 rfl rfl ?_
  have A0 : Ia Z h3 a2 .byte (Int32.ofNat n) (bytesF (own_fill q c 0)) := A7.congr (fun j h1 h2 => rfl)
  refine cut (P := ∀ h', Ia Z h' a2 .byte (Int32.ofNat n) (bytesF (own_fill q c 1)) → Keep h h' [] → Wk E h' 1 8 19 #[.val (.int (Int32.ofNat n)), .val (.int q), .val (.long c), .second, .val (.ref a2)] []) (fun J1 => ?_) ?_
  · refine K.iloadN dM_5 rfl ?_
    refine K.if_le dM_6 (fun hc9 => ?_) (fun hc9 => ?_)
    · refine K.aload dM_9 rfl rfl ?_
      refine K.iconst (0 : Int32) dM_11 rfl ?_
      refine K.iloadN dM_12 rfl ?_
      refine K.lloadN dM_13 rfl ?_
      refine K.iconst (0 : Int32) dM_14 rfl ?_
      refine K.callS [.int q, .long c, .int (0 : Int32)] [.int (0 : Int32), .ref a2] 2 1 8 dM_15 (wd6 hw) (wd7 hw) (wd3 hw) (wd8 hw) (by decide) (rmL l Z a0 hw q c (0 : Int32) h3 n0) rfl (lenOf pd_1 rfl) rfl (Nat.le_of_eq rfl) (by decide) (by decide) rfl rfl (by decide) (by decide) (goP ?_)
      have hk : 0 < n := (own_lt (by decide) (by omega)).mp hc9
      refine K.bastore dM_18 A0 (by decide) hc9 g5 (fun h10 W11 A12 => ?_)
      have K13 := K8.wr W11 (Or.inr ks_a2)
      exact J1 _ (A12.congr (own_fill_step q c (by omega) (by decide))) K13
    · exact J1 _ (A0.congr (own_fill_skip q c (by omega) (fun u => hc9 ((own_lt (by decide) (by omega)).mpr u)))) K8
  intro hk1 A1 KK1
  refine cut (P := ∀ h', Ia Z h' a2 .byte (Int32.ofNat n) (bytesF (own_fill q c 2)) → Keep h h' [] → Wk E h' 1 8 34 #[.val (.int (Int32.ofNat n)), .val (.int q), .val (.long c), .second, .val (.ref a2)] []) (fun J2 => ?_) ?_
  · refine K.iloadN dM_19 rfl ?_
    refine K.iconst (1 : Int32) dM_20 rfl ?_
    refine K.ic_le dM_21 (fun hc14 => ?_) (fun hc14 => ?_)
    · refine K.aload dM_24 rfl rfl ?_
      refine K.iconst (1 : Int32) dM_26 rfl ?_
      refine K.iloadN dM_27 rfl ?_
      refine K.lloadN dM_28 rfl ?_
      refine K.iconst (1 : Int32) dM_29 rfl ?_
      refine K.callS [.int q, .long c, .int (1 : Int32)] [.int (1 : Int32), .ref a2] 2 1 8 dM_30 (wd6 hw) (wd7 hw) (wd3 hw) (wd8 hw) (by decide) (rmL l Z a0 hw q c (1 : Int32) hk1 n0) rfl (lenOf pd_1 rfl) rfl (Nat.le_of_eq rfl) (by decide) (by decide) rfl rfl (by decide) (by decide) (goP ?_)
      have hk : 1 < n := (own_lt (by decide) (by omega)).mp hc14
      refine K.bastore dM_33 A1 (by decide) hc14 g5 (fun h15 W16 A17 => ?_)
      have K18 := KK1.wr W16 (Or.inr ks_a2)
      exact J2 _ (A17.congr (own_fill_step q c (by omega) (by decide))) K18
    · exact J2 _ (A1.congr (own_fill_skip q c (by omega) (fun u => hc14 ((own_lt (by decide) (by omega)).mpr u)))) KK1
  intro hk2 A2 KK2
  refine cut (P := ∀ h', Ia Z h' a2 .byte (Int32.ofNat n) (bytesF (own_fill q c 3)) → Keep h h' [] → Wk E h' 1 8 49 #[.val (.int (Int32.ofNat n)), .val (.int q), .val (.long c), .second, .val (.ref a2)] []) (fun J3 => ?_) ?_
  · refine K.iloadN dM_34 rfl ?_
    refine K.iconst (2 : Int32) dM_35 rfl ?_
    refine K.ic_le dM_36 (fun hc19 => ?_) (fun hc19 => ?_)
    · refine K.aload dM_39 rfl rfl ?_
      refine K.iconst (2 : Int32) dM_41 rfl ?_
      refine K.iloadN dM_42 rfl ?_
      refine K.lloadN dM_43 rfl ?_
      refine K.iconst (2 : Int32) dM_44 rfl ?_
      refine K.callS [.int q, .long c, .int (2 : Int32)] [.int (2 : Int32), .ref a2] 2 1 8 dM_45 (wd6 hw) (wd7 hw) (wd3 hw) (wd8 hw) (by decide) (rmL l Z a0 hw q c (2 : Int32) hk2 n0) rfl (lenOf pd_1 rfl) rfl (Nat.le_of_eq rfl) (by decide) (by decide) rfl rfl (by decide) (by decide) (goP ?_)
      have hk : 2 < n := (own_lt (by decide) (by omega)).mp hc19
      refine K.bastore dM_48 A2 (by decide) hc19 g5 (fun h20 W21 A22 => ?_)
      have K23 := KK2.wr W21 (Or.inr ks_a2)
      exact J3 _ (A22.congr (own_fill_step q c (by omega) (by decide))) K23
    · exact J3 _ (A2.congr (own_fill_skip q c (by omega) (fun u => hc19 ((own_lt (by decide) (by omega)).mpr u)))) KK2
  intro hk3 A3 KK3
  refine cut (P := ∀ h', Ia Z h' a2 .byte (Int32.ofNat n) (bytesF (own_fill q c 4)) → Keep h h' [] → Wk E h' 1 8 64 #[.val (.int (Int32.ofNat n)), .val (.int q), .val (.long c), .second, .val (.ref a2)] []) (fun J4 => ?_) ?_
  · refine K.iloadN dM_49 rfl ?_
    refine K.iconst (3 : Int32) dM_50 rfl ?_
    refine K.ic_le dM_51 (fun hc24 => ?_) (fun hc24 => ?_)
    · refine K.aload dM_54 rfl rfl ?_
      refine K.iconst (3 : Int32) dM_56 rfl ?_
      refine K.iloadN dM_57 rfl ?_
      refine K.lloadN dM_58 rfl ?_
      refine K.iconst (3 : Int32) dM_59 rfl ?_
      refine K.callS [.int q, .long c, .int (3 : Int32)] [.int (3 : Int32), .ref a2] 2 1 8 dM_60 (wd6 hw) (wd7 hw) (wd3 hw) (wd8 hw) (by decide) (rmL l Z a0 hw q c (3 : Int32) hk3 n0) rfl (lenOf pd_1 rfl) rfl (Nat.le_of_eq rfl) (by decide) (by decide) rfl rfl (by decide) (by decide) (goP ?_)
      have hk : 3 < n := (own_lt (by decide) (by omega)).mp hc24
      refine K.bastore dM_63 A3 (by decide) hc24 g5 (fun h25 W26 A27 => ?_)
      have K28 := KK3.wr W26 (Or.inr ks_a2)
      exact J4 _ (A27.congr (own_fill_step q c (by omega) (by decide))) K28
    · exact J4 _ (A3.congr (own_fill_skip q c (by omega) (fun u => hc24 ((own_lt (by decide) (by omega)).mpr u)))) KK3
  intro hk4 A4 KK4
  refine cut (P := ∀ h', Ia Z h' a2 .byte (Int32.ofNat n) (bytesF (own_fill q c 5)) → Keep h h' [] → Wk E h' 1 8 79 #[.val (.int (Int32.ofNat n)), .val (.int q), .val (.long c), .second, .val (.ref a2)] []) (fun J5 => ?_) ?_
  · refine K.iloadN dM_64 rfl ?_
    refine K.iconst (4 : Int32) dM_65 rfl ?_
    refine K.ic_le dM_66 (fun hc29 => ?_) (fun hc29 => ?_)
    · refine K.aload dM_69 rfl rfl ?_
      refine K.iconst (4 : Int32) dM_71 rfl ?_
      refine K.iloadN dM_72 rfl ?_
      refine K.lloadN dM_73 rfl ?_
      refine K.iconst (4 : Int32) dM_74 rfl ?_
      refine K.callS [.int q, .long c, .int (4 : Int32)] [.int (4 : Int32), .ref a2] 2 1 8 dM_75 (wd6 hw) (wd7 hw) (wd3 hw) (wd8 hw) (by decide) (rmL l Z a0 hw q c (4 : Int32) hk4 n0) rfl (lenOf pd_1 rfl) rfl (Nat.le_of_eq rfl) (by decide) (by decide) rfl rfl (by decide) (by decide) (goP ?_)
      have hk : 4 < n := (own_lt (by decide) (by omega)).mp hc29
      refine K.bastore dM_78 A4 (by decide) hc29 g5 (fun h30 W31 A32 => ?_)
      have K33 := KK4.wr W31 (Or.inr ks_a2)
      exact J5 _ (A32.congr (own_fill_step q c (by omega) (by decide))) K33
    · exact J5 _ (A4.congr (own_fill_skip q c (by omega) (fun u => hc29 ((own_lt (by decide) (by omega)).mpr u)))) KK4
  intro hk5 A5 KK5
  refine cut (P := ∀ h', Ia Z h' a2 .byte (Int32.ofNat n) (bytesF (own_fill q c 6)) → Keep h h' [] → Wk E h' 1 8 94 #[.val (.int (Int32.ofNat n)), .val (.int q), .val (.long c), .second, .val (.ref a2)] []) (fun J6 => ?_) ?_
  · refine K.iloadN dM_79 rfl ?_
    refine K.iconst (5 : Int32) dM_80 rfl ?_
    refine K.ic_le dM_81 (fun hc34 => ?_) (fun hc34 => ?_)
    · refine K.aload dM_84 rfl rfl ?_
      refine K.iconst (5 : Int32) dM_86 rfl ?_
      refine K.iloadN dM_87 rfl ?_
      refine K.lloadN dM_88 rfl ?_
      refine K.iconst (5 : Int32) dM_89 rfl ?_
      refine K.callS [.int q, .long c, .int (5 : Int32)] [.int (5 : Int32), .ref a2] 2 1 8 dM_90 (wd6 hw) (wd7 hw) (wd3 hw) (wd8 hw) (by decide) (rmL l Z a0 hw q c (5 : Int32) hk5 n0) rfl (lenOf pd_1 rfl) rfl (Nat.le_of_eq rfl) (by decide) (by decide) rfl rfl (by decide) (by decide) (goP ?_)
      have hk : 5 < n := (own_lt (by decide) (by omega)).mp hc34
      refine K.bastore dM_93 A5 (by decide) hc34 g5 (fun h35 W36 A37 => ?_)
      have K38 := KK5.wr W36 (Or.inr ks_a2)
      exact J6 _ (A37.congr (own_fill_step q c (by omega) (by decide))) K38
    · exact J6 _ (A5.congr (own_fill_skip q c (by omega) (fun u => hc34 ((own_lt (by decide) (by omega)).mpr u)))) KK5
  intro hk6 A6 KK6
  refine cut (P := ∀ h', Ia Z h' a2 .byte (Int32.ofNat n) (bytesF (own_fill q c 7)) → Keep h h' [] → Wk E h' 1 8 112 #[.val (.int (Int32.ofNat n)), .val (.int q), .val (.long c), .second, .val (.ref a2)] []) (fun J7 => ?_) ?_
  · refine K.iloadN dM_94 rfl ?_
    refine K.bipush (6 : Int32) dM_95 rfl ?_
    refine K.ic_le dM_97 (fun hc39 => ?_) (fun hc39 => ?_)
    · refine K.aload dM_100 rfl rfl ?_
      refine K.bipush (6 : Int32) dM_102 rfl ?_
      refine K.iloadN dM_104 rfl ?_
      refine K.lloadN dM_105 rfl ?_
      refine K.bipush (6 : Int32) dM_106 rfl ?_
      refine K.callS [.int q, .long c, .int (6 : Int32)] [.int (6 : Int32), .ref a2] 2 1 8 dM_108 (wd6 hw) (wd7 hw) (wd3 hw) (wd8 hw) (by decide) (rmL l Z a0 hw q c (6 : Int32) hk6 n0) rfl (lenOf pd_1 rfl) rfl (Nat.le_of_eq rfl) (by decide) (by decide) rfl rfl (by decide) (by decide) (goP ?_)
      have hk : 6 < n := (own_lt (by decide) (by omega)).mp hc39
      refine K.bastore dM_111 A6 (by decide) hc39 g5 (fun h40 W41 A42 => ?_)
      have K43 := KK6.wr W41 (Or.inr ks_a2)
      exact J7 _ (A42.congr (own_fill_step q c (by omega) (by decide))) K43
    · exact J7 _ (A6.congr (own_fill_skip q c (by omega) (fun u => hc39 ((own_lt (by decide) (by omega)).mpr u)))) KK6
  intro hk7 A7 KK7
  refine cut (P := ∀ h', Ia Z h' a2 .byte (Int32.ofNat n) (bytesF (own_fill q c 8)) → Keep h h' [] → Wk E h' 1 8 130 #[.val (.int (Int32.ofNat n)), .val (.int q), .val (.long c), .second, .val (.ref a2)] []) (fun J8 => ?_) ?_
  · refine K.iloadN dM_112 rfl ?_
    refine K.bipush (7 : Int32) dM_113 rfl ?_
    refine K.ic_le dM_115 (fun hc44 => ?_) (fun hc44 => ?_)
    · refine K.aload dM_118 rfl rfl ?_
      refine K.bipush (7 : Int32) dM_120 rfl ?_
      refine K.iloadN dM_122 rfl ?_
      refine K.lloadN dM_123 rfl ?_
      refine K.bipush (7 : Int32) dM_124 rfl ?_
      refine K.callS [.int q, .long c, .int (7 : Int32)] [.int (7 : Int32), .ref a2] 2 1 8 dM_126 (wd6 hw) (wd7 hw) (wd3 hw) (wd8 hw) (by decide) (rmL l Z a0 hw q c (7 : Int32) hk7 n0) rfl (lenOf pd_1 rfl) rfl (Nat.le_of_eq rfl) (by decide) (by decide) rfl rfl (by decide) (by decide) (goP ?_)
      have hk : 7 < n := (own_lt (by decide) (by omega)).mp hc44
      refine K.bastore dM_129 A7 (by decide) hc44 g5 (fun h45 W46 A47 => ?_)
      have K48 := KK7.wr W46 (Or.inr ks_a2)
      exact J8 _ (A47.congr (own_fill_step q c (by omega) (by decide))) K48
    · exact J8 _ (A7.congr (own_fill_skip q c (by omega) (fun u => hc44 ((own_lt (by decide) (by omega)).mpr u)))) KK7
  intro hk8 A8 KK8
  refine K.aload dM_130 rfl rfl ?_
  exact K.areturn dM_132 rfl rfl rfl (by decide) (by decide) ⟨_, rfl, KK8, ks_a2, A8.congr (own_fill_all q c (by omega) hn), g5⟩
set_option maxRecDepth 65536 in
set_option maxHeartbeats 40000000 in
theorem rmA (l : Launch) (Z : State) (a0 : Array Value) (hw : ∀ d ∈ tables_1, d.before a0 Z = true) (a d : Addr) (n m e : Nat) (b r : Nat → Int32) (h : Heap) (n0 : Nat) (PA : Ia Z h a .byte (Int32.ofNat n) (bytesF b)) (PD : Ia Z h d .byte (Int32.ofNat m) (bytesF r)) (hn : n ≤ 8) (hm : m ≤ 5) (he : e ≤ 8) : Con l Z ⟨"com/example/briareus/briareus/ByteSearchContainsPinLaw", "at", "([BI[BII)Z"⟩ method_4_code 5 (some .boolean) ({ frames := 0, cells := 0, slots := 0, locals := 0 } : Room) #[.ref a, .int (Int32.ofNat n), .ref d, .int (Int32.ofNat m), .int (Int32.ofNat e)] h n0 (fun v h' => v = some (.int (own_at n m e b r)) ∧ h' = h) := by
  refine Con.of pnA (fun m_ => efA m_ a (Int32.ofNat n) d (Int32.ofNat m) (Int32.ofNat e)) (fun E K => ?_)
  refine K.iload dA_0 rfl ?_
  refine K.iloadN dA_2 rfl ?_
  refine K.iadd dA_3 ?_
  rw [own_addn e m]
  refine K.iloadN dA_4 rfl ?_
  refine K.ic_le dA_5 (fun hc1 => ?_) (fun hc1 => ?_)
  · refine K.iconst (0 : Int32) dA_8 rfl ?_
    exact K.ireturn dA_9 (Or.inr (Or.inl rfl)) rfl (by decide) (by decide) ⟨by rw [own_at0 (fun q => absurd ((own_lt (by omega) (by omega)).mp hc1) (by omega))], rfl⟩
  · have hle : e + m ≤ n := Nat.le_of_not_lt (fun q => hc1 ((own_lt (by omega) (by omega)).mpr q))
    have H0 : ∀ j, j < 0 → j < m → b (e + j) = r j := fun j q => absurd q (by omega)
    refine cut (P := (∀ j, j < 1 → j < m → b (e + j) = r j) → Wk E h 0 0 24 #[.val (.ref a), .val (.int (Int32.ofNat n)), .val (.ref d), .val (.int (Int32.ofNat m)), .val (.int (Int32.ofNat e))] []) (fun J1 => ?_) ?_
    · refine K.iloadN dA_10 rfl ?_
      refine K.if_le dA_11 (fun hc2 => ?_) (fun hc2 => ?_)
      · have hk : 0 < m := (own_lt (by decide) (by omega)).mp hc2
        refine K.aloadN dA_14 rfl rfl ?_
        refine K.iconst (0 : Int32) dA_15 rfl ?_
        refine K.baload (v := .int (r 0)) dA_16 PD (by decide) hc2 (own_rd r (by decide)) ?_
        refine K.aloadN dA_17 rfl rfl ?_
        refine K.iload dA_18 rfl ?_
        refine K.baload (v := .int (b e)) dA_20 PA (own_nn (by omega)) ((own_lt (by omega) (by omega)).mpr (by omega)) (own_rd b (by omega)) ?_
        refine K.ic_ne dA_21 (fun hc3 => ?_) (fun hc3 => ?_)
        · exact J1 (fun j q1 q2 => by rcases Nat.lt_succ_iff_lt_or_eq.mp q1 with q | rfl; exact H0 j q q2; exact hc3.symm)
        · refine K.iconst (0 : Int32) dA_96 rfl ?_
          exact K.ireturn dA_97 (Or.inr (Or.inl rfl)) rfl (by decide) (by decide) ⟨by rw [own_at0 (fun q => hc3 (q.2 0 hk).symm)], rfl⟩
      · exact J1 (fun j q1 q2 => H0 j (by have := (show ¬ 0 < m from fun u => hc2 ((own_lt (i := 0) (by decide) (by omega)).mpr u)); omega) q2)
    intro H1
    refine cut (P := (∀ j, j < 2 → j < m → b (e + j) = r j) → Wk E h 0 0 41 #[.val (.ref a), .val (.int (Int32.ofNat n)), .val (.ref d), .val (.int (Int32.ofNat m)), .val (.int (Int32.ofNat e))] []) (fun J2 => ?_) ?_
    · refine K.iloadN dA_24 rfl ?_
      refine K.iconst (1 : Int32) dA_25 rfl ?_
      refine K.ic_le dA_26 (fun hc4 => ?_) (fun hc4 => ?_)
      · have hk : 1 < m := (own_lt (by decide) (by omega)).mp hc4
        refine K.aloadN dA_29 rfl rfl ?_
        refine K.iconst (1 : Int32) dA_30 rfl ?_
        refine K.baload (v := .int (r 1)) dA_31 PD (by decide) hc4 (own_rd r (by decide)) ?_
        refine K.aloadN dA_32 rfl rfl ?_
        refine K.iload dA_33 rfl ?_
        refine K.iconst (1 : Int32) dA_35 rfl ?_
        refine K.iadd dA_36 ?_
        rw [show Int32.ofNat e + (1 : Int32) = Int32.ofNat (e + 1) from own_addn e 1]
        refine K.baload (v := .int (b (e + 1))) dA_37 PA (own_nn (by omega)) ((own_lt (by omega) (by omega)).mpr (by omega)) (own_rd b (by omega)) ?_
        refine K.ic_ne dA_38 (fun hc5 => ?_) (fun hc5 => ?_)
        · exact J2 (fun j q1 q2 => by rcases Nat.lt_succ_iff_lt_or_eq.mp q1 with q | rfl; exact H1 j q q2; exact hc5.symm)
        · refine K.iconst (0 : Int32) dA_96 rfl ?_
          exact K.ireturn dA_97 (Or.inr (Or.inl rfl)) rfl (by decide) (by decide) ⟨by rw [own_at0 (fun q => hc5 (q.2 1 hk).symm)], rfl⟩
      · exact J2 (fun j q1 q2 => H1 j (by have := (show ¬ 1 < m from fun u => hc4 ((own_lt (i := 1) (by decide) (by omega)).mpr u)); omega) q2)
    intro H2
    refine cut (P := (∀ j, j < 3 → j < m → b (e + j) = r j) → Wk E h 0 0 58 #[.val (.ref a), .val (.int (Int32.ofNat n)), .val (.ref d), .val (.int (Int32.ofNat m)), .val (.int (Int32.ofNat e))] []) (fun J3 => ?_) ?_
    · refine K.iloadN dA_41 rfl ?_
      refine K.iconst (2 : Int32) dA_42 rfl ?_
      refine K.ic_le dA_43 (fun hc6 => ?_) (fun hc6 => ?_)
      · have hk : 2 < m := (own_lt (by decide) (by omega)).mp hc6
        refine K.aloadN dA_46 rfl rfl ?_
        refine K.iconst (2 : Int32) dA_47 rfl ?_
        refine K.baload (v := .int (r 2)) dA_48 PD (by decide) hc6 (own_rd r (by decide)) ?_
        refine K.aloadN dA_49 rfl rfl ?_
        refine K.iload dA_50 rfl ?_
        refine K.iconst (2 : Int32) dA_52 rfl ?_
        refine K.iadd dA_53 ?_
        rw [show Int32.ofNat e + (2 : Int32) = Int32.ofNat (e + 2) from own_addn e 2]
        refine K.baload (v := .int (b (e + 2))) dA_54 PA (own_nn (by omega)) ((own_lt (by omega) (by omega)).mpr (by omega)) (own_rd b (by omega)) ?_
        refine K.ic_ne dA_55 (fun hc7 => ?_) (fun hc7 => ?_)
        · exact J3 (fun j q1 q2 => by rcases Nat.lt_succ_iff_lt_or_eq.mp q1 with q | rfl; exact H2 j q q2; exact hc7.symm)
        · refine K.iconst (0 : Int32) dA_96 rfl ?_
          exact K.ireturn dA_97 (Or.inr (Or.inl rfl)) rfl (by decide) (by decide) ⟨by rw [own_at0 (fun q => hc7 (q.2 2 hk).symm)], rfl⟩
      · exact J3 (fun j q1 q2 => H2 j (by have := (show ¬ 2 < m from fun u => hc6 ((own_lt (i := 2) (by decide) (by omega)).mpr u)); omega) q2)
    intro H3
    refine cut (P := (∀ j, j < 4 → j < m → b (e + j) = r j) → Wk E h 0 0 75 #[.val (.ref a), .val (.int (Int32.ofNat n)), .val (.ref d), .val (.int (Int32.ofNat m)), .val (.int (Int32.ofNat e))] []) (fun J4 => ?_) ?_
    · refine K.iloadN dA_58 rfl ?_
      refine K.iconst (3 : Int32) dA_59 rfl ?_
      refine K.ic_le dA_60 (fun hc8 => ?_) (fun hc8 => ?_)
      · have hk : 3 < m := (own_lt (by decide) (by omega)).mp hc8
        refine K.aloadN dA_63 rfl rfl ?_
        refine K.iconst (3 : Int32) dA_64 rfl ?_
        refine K.baload (v := .int (r 3)) dA_65 PD (by decide) hc8 (own_rd r (by decide)) ?_
        refine K.aloadN dA_66 rfl rfl ?_
        refine K.iload dA_67 rfl ?_
        refine K.iconst (3 : Int32) dA_69 rfl ?_
        refine K.iadd dA_70 ?_
        rw [show Int32.ofNat e + (3 : Int32) = Int32.ofNat (e + 3) from own_addn e 3]
        refine K.baload (v := .int (b (e + 3))) dA_71 PA (own_nn (by omega)) ((own_lt (by omega) (by omega)).mpr (by omega)) (own_rd b (by omega)) ?_
        refine K.ic_ne dA_72 (fun hc9 => ?_) (fun hc9 => ?_)
        · exact J4 (fun j q1 q2 => by rcases Nat.lt_succ_iff_lt_or_eq.mp q1 with q | rfl; exact H3 j q q2; exact hc9.symm)
        · refine K.iconst (0 : Int32) dA_96 rfl ?_
          exact K.ireturn dA_97 (Or.inr (Or.inl rfl)) rfl (by decide) (by decide) ⟨by rw [own_at0 (fun q => hc9 (q.2 3 hk).symm)], rfl⟩
      · exact J4 (fun j q1 q2 => H3 j (by have := (show ¬ 3 < m from fun u => hc8 ((own_lt (i := 3) (by decide) (by omega)).mpr u)); omega) q2)
    intro H4
    refine cut (P := (∀ j, j < 5 → j < m → b (e + j) = r j) → Wk E h 0 0 92 #[.val (.ref a), .val (.int (Int32.ofNat n)), .val (.ref d), .val (.int (Int32.ofNat m)), .val (.int (Int32.ofNat e))] []) (fun J5 => ?_) ?_
    · refine K.iloadN dA_75 rfl ?_
      refine K.iconst (4 : Int32) dA_76 rfl ?_
      refine K.ic_le dA_77 (fun hc10 => ?_) (fun hc10 => ?_)
      · have hk : 4 < m := (own_lt (by decide) (by omega)).mp hc10
        refine K.aloadN dA_80 rfl rfl ?_
        refine K.iconst (4 : Int32) dA_81 rfl ?_
        refine K.baload (v := .int (r 4)) dA_82 PD (by decide) hc10 (own_rd r (by decide)) ?_
        refine K.aloadN dA_83 rfl rfl ?_
        refine K.iload dA_84 rfl ?_
        refine K.iconst (4 : Int32) dA_86 rfl ?_
        refine K.iadd dA_87 ?_
        rw [show Int32.ofNat e + (4 : Int32) = Int32.ofNat (e + 4) from own_addn e 4]
        refine K.baload (v := .int (b (e + 4))) dA_88 PA (own_nn (by omega)) ((own_lt (by omega) (by omega)).mpr (by omega)) (own_rd b (by omega)) ?_
        refine K.ic_ne dA_89 (fun hc11 => ?_) (fun hc11 => ?_)
        · exact J5 (fun j q1 q2 => by rcases Nat.lt_succ_iff_lt_or_eq.mp q1 with q | rfl; exact H4 j q q2; exact hc11.symm)
        · refine K.iconst (0 : Int32) dA_96 rfl ?_
          exact K.ireturn dA_97 (Or.inr (Or.inl rfl)) rfl (by decide) (by decide) ⟨by rw [own_at0 (fun q => hc11 (q.2 4 hk).symm)], rfl⟩
      · exact J5 (fun j q1 q2 => H4 j (by have := (show ¬ 4 < m from fun u => hc10 ((own_lt (i := 4) (by decide) (by omega)).mpr u)); omega) q2)
    intro H5
    refine K.iconst (1 : Int32) dA_92 rfl ?_
    refine K.goto dA_93 ?_
    exact K.ireturn dA_97 (Or.inr (Or.inl rfl)) rfl (by decide) (by decide) ⟨by rw [own_at1 ⟨hle, fun j q => H5 j (by omega) q⟩], rfl⟩
set_option maxRecDepth 65536 in
set_option maxHeartbeats 40000000 in
theorem rmF (l : Launch) (Z : State) (a0 : Array Value) (hw : ∀ d ∈ tables_1, d.before a0 Z = true) (a : Addr) (m : Nat) (r : Nat → Int32) (h : Heap) (n0 : Nat) (PA : Ia Z h a .byte (Int32.ofNat m) (bytesF r)) (hm : m ≤ 5) : Con l Z ⟨"com/example/briareus/briareus/ByteSearch", "fallbacks", "([B)[I"⟩ prog_2_method_3_code 4 (some (.array .int)) ({ frames := 0, cells := 1, slots := 5, locals := 0 } : Room) #[.ref a] h n0 (fun v h' => ∃ t, v = some (.ref t) ∧ (Keep h h' [] ∧ h.size ≤ t ∧ ∃ g : Nat → Nat, Ia Z h' t .int (Int32.ofNat m) (intsF g) ∧ ∀ j, j < m → Best r r (j + 1) (j + 1) (g j))) := by
  refine Con.of pnF (fun m_ => efF m_ a) (fun E K => ?_)
  have K1 : Keep h h [] := Keep.refl _ _
  refine K.aloadN dF_0 rfl rfl ?_
  refine K.arraylength dF_1 PA ?_
  refine K.newP (ty := .int) (dv := .int 0) 5 1 5 dF_2 (wd20 hw) rfl rfl (own_nn (by omega)) (by rw [clamp_of rfl (by omega)]; exact hm) (by decide) rfl rfl (by decide) (by decide) (fun h3 a2 ha4 g5 X6 A7 => ?_)
  have ks_a2 := ha_ge K1.1 ha4
  have lt_a_a2 : a < a2 := by rw [ha4]; exact PA.lt
  have K8 := K1.ext X6
  have I9 := PA.ext X6
  refine K.astoreN #[.val (.ref a), .val (.ref a2), .unset, .unset] dF_4 rfl rfl ?_
  refine K.iconst (0 : Int32) dF_5 rfl ?_
  refine K.istoreN #[.val (.ref a), .val (.ref a2), .val (.int (0 : Int32)), .unset] dF_6 rfl ?_
  refine K.iconst (1 : Int32) dF_7 rfl ?_
  refine K.istoreN #[.val (.ref a), .val (.ref a2), .val (.int (0 : Int32)), .val (.int (1 : Int32))] dF_8 rfl ?_
  have LOOP : ∀ (d i k : Nat) (h1 : Heap) (g : Nat → Nat), m ≤ i + d → 1 ≤ i → i ≤ 6 → Best r r i i k → (∀ j, j < i → j < m → Best r r (j + 1) (j + 1) (g j)) → Ia Z h1 a .byte (Int32.ofNat m) (bytesF r) → Ia Z h1 a2 .int (Int32.ofNat m) (intsF g) → Keep h h1 [] → Wk E h1 1 5 9 #[.val (.ref a), .val (.ref a2), .val (.int (Int32.ofNat k)), .val (.int (Int32.ofNat i))] [] := by
    intro d
    induction d with
    | zero =>
      intro i k h1 g hd hi1 hi6 hB hG PA1 PT1 KK
      have him : ¬ i < m := by omega
      refine K.iloadN dF_9 rfl ?_
      refine K.aloadN dF_10 rfl rfl ?_
      refine K.arraylength dF_11 PA1 ?_
      refine K.ic_ge dF_12 (fun u => absurd u (fun q => him ((own_lt (by omega) (by omega)).mp q))) (fun _ => ?_)
      refine K.aloadN dF_59 rfl rfl ?_
      exact K.areturn dF_60 rfl rfl rfl (by decide) (by decide) ⟨_, rfl, KK, ks_a2, g, PT1, fun j hj => hG j (by omega) hj⟩
    | succ d ih =>
      intro i k h1 g hd hi1 hi6 hB hG PA1 PT1 KK
      by_cases him : i < m
      · have T : ∀ k' : Nat, Best r r (i + 1) (i + 1) k' → Wk E h1 1 5 49 #[.val (.ref a), .val (.ref a2), .val (.int (Int32.ofNat k')), .val (.int (Int32.ofNat i))] [] := by
          intro k' hb
          have hk' : k' ≤ i + 1 := hb.1.1
          refine K.aloadN dF_49 rfl rfl ?_
          refine K.iloadN dF_50 rfl ?_
          refine K.iloadN dF_51 rfl ?_
          refine K.iastore dF_52 PT1 (own_nn (by omega)) ((own_lt (by omega) (by omega)).mpr him) g5 (fun h10 W11 A12 => ?_)
          have K13 := KK.wr W11 (Or.inr ks_a2)
          have I14 := PA1.other W11 (Nat.ne_of_lt lt_a_a2)
          refine K.iinc (Int32.ofNat (i + 1)) #[.val (.ref a), .val (.ref a2), .val (.int (Int32.ofNat k')), .val (.int (Int32.ofNat (i + 1)))] dF_53 rfl (inc_ofNat i).symm rfl ?_
          refine K.goto dF_56 ?_
          exact ih (i + 1) k' _ (fun j => if j = i then k' else g j) (by omega) (by omega) (by omega) hb (fun j q1 q2 => by by_cases u : j = i; subst u; rw [if_pos rfl]; exact hb; rw [if_neg u]; exact hG j (by omega) q2) I14 (A12.congr (own_ints g (by omega))) K13
        have H : ∀ kk : Nat, Cand r r i i kk → (kk = 0 ∨ r i = r kk) → Wk E h1 1 5 37 #[.val (.ref a), .val (.ref a2), .val (.int (Int32.ofNat kk)), .val (.int (Int32.ofNat i))] [] := by
          intro kk hc hz
          have hkk : kk < i := hc.2.1
          refine K.aloadN dF_37 rfl rfl ?_
          refine K.iloadN dF_38 rfl ?_
          refine K.baload (v := .int (r i)) dF_39 PA1 (own_nn (by omega)) ((own_lt (by omega) (by omega)).mpr (by omega)) (own_rd r (by omega)) ?_
          refine K.aloadN dF_40 rfl rfl ?_
          refine K.iloadN dF_41 rfl ?_
          refine K.baload (v := .int (r kk)) dF_42 PA1 (own_nn (by omega)) ((own_lt (by omega) (by omega)).mpr (by omega)) (own_rd r (by omega)) ?_
          refine K.ic_ne dF_43 (fun hc15 => ?_) (fun hc15 => ?_)
          · refine K.iinc (Int32.ofNat (kk + 1)) #[.val (.ref a), .val (.ref a2), .val (.int (Int32.ofNat (kk + 1))), .val (.int (Int32.ofNat i))] dF_46 rfl (inc_ofNat kk).symm rfl ?_
            exact T _ (hc.hit hc15)
          · rcases hz with rfl | hz
            · exact T 0 (hc.miss hc15)
            · exact absurd hz hc15
        have M : ∀ kk : Nat, Cand r r i i kk → Wk E h1 1 5 15 #[.val (.ref a), .val (.ref a2), .val (.int (Int32.ofNat kk)), .val (.int (Int32.ofNat i))] [] := by
          intro kk
          induction kk using Nat.strongRecOn with
          | ind kk ihk =>
            intro hc
            have hkk : kk < i := hc.2.1
            refine K.iloadN dF_15 rfl ?_
            refine K.if_le dF_16 (fun hc16 => ?_) (fun hc16 => ?_)
            · obtain ⟨k2, rfl⟩ : ∃ k2, kk = k2 + 1 := own_pred hc16
              refine K.aloadN dF_19 rfl rfl ?_
              refine K.iloadN dF_20 rfl ?_
              refine K.baload (v := .int (r i)) dF_21 PA1 (own_nn (by omega)) ((own_lt (by omega) (by omega)).mpr (by omega)) (own_rd r (by omega)) ?_
              refine K.aloadN dF_22 rfl rfl ?_
              refine K.iloadN dF_23 rfl ?_
              refine K.baload (v := .int (r (k2 + 1))) dF_24 PA1 (own_nn (by omega)) ((own_lt (by omega) (by omega)).mpr (by omega)) (own_rd r (by omega)) ?_
              refine K.ic_eq dF_25 (fun hc17 => ?_) (fun hc17 => ?_)
              · exact H _ hc (Or.inr hc17)
              · refine K.aloadN dF_28 rfl rfl ?_
                refine K.iloadN dF_29 rfl ?_
                refine K.iconst (1 : Int32) dF_30 rfl ?_
                refine K.isub dF_31 ?_
                rw [dec_ofNat k2]
                have hf := hG k2 (by omega) (by omega)
                refine K.iaload (v := .int (Int32.ofNat (g k2))) dF_32 PT1 (own_nn (by omega)) ((own_lt (by omega) (by omega)).mpr (by omega)) (own_ri g (by omega)) ?_
                refine K.istoreN #[.val (.ref a), .val (.ref a2), .val (.int (Int32.ofNat (g k2))), .val (.int (Int32.ofNat i))] dF_33 rfl ?_
                refine K.goto dF_34 ?_
                exact ihk (g k2) hf.2.1 (hc.fall hc17 hf)
            · exact H _ hc (Or.inl (own_zero (by omega) hc16))
        refine K.iloadN dF_9 rfl ?_
        refine K.aloadN dF_10 rfl rfl ?_
        refine K.arraylength dF_11 PA1 ?_
        refine K.ic_ge dF_12 (fun _ => ?_) (fun u => absurd ((own_lt (by omega) (by omega)).mpr him) u)
        exact M k hB.cand
      · refine K.iloadN dF_9 rfl ?_
        refine K.aloadN dF_10 rfl rfl ?_
        refine K.arraylength dF_11 PA1 ?_
        refine K.ic_ge dF_12 (fun u => absurd u (fun q => him ((own_lt (by omega) (by omega)).mp q))) (fun _ => ?_)
        refine K.aloadN dF_59 rfl rfl ?_
        exact K.areturn dF_60 rfl rfl rfl (by decide) (by decide) ⟨_, rfl, KK, ks_a2, g, PT1, fun j hj => hG j (by omega) hj⟩
  exact LOOP m 1 0 _ (fun _ => 0) (by omega) (by omega) (by omega) (Best.one r) (fun j q1 q2 => by have : j = 0 := (by omega); subst this; exact Best.one r) I9 (A7.congr (fun j h1 h2 => rfl)) K8
set_option maxRecDepth 65536 in
set_option maxHeartbeats 40000000 in
theorem rmC (l : Launch) (Z : State) (a0 : Array Value) (hw : ∀ d ∈ tables_1, d.before a0 Z = true) (a d : Addr) (n m : Nat) (b r : Nat → Int32) (h : Heap) (n0 : Nat) (PA : Ia Z h a .byte (Int32.ofNat n) (bytesF b)) (PD : Ia Z h d .byte (Int32.ofNat m) (bytesF r)) (hn : n ≤ 8) (hm : m ≤ 5) : Con l Z ⟨"com/example/briareus/briareus/ByteSearch", "contains", "([B[B)Z"⟩ prog_2_method_2_code 6 (some .boolean) ({ frames := 1, cells := 1, slots := 5, locals := 15 } : Room) #[.ref a, .ref d] h n0 (fun v h' => ∃ z, v = some (.int z) ∧ (Keep h h' [] ∧ (z = 1 ∧ own_has n m b r ∨ z = 0 ∧ ¬ own_has n m b r))) := by
  refine Con.of pnC (fun m_ => efC m_ a d) (fun E K => ?_)
  have K1 : Keep h h [] := Keep.refl _ _
  refine K.aloadN dC_0 rfl rfl ?_
  refine K.arraylength dC_1 PD ?_
  refine K.aloadN dC_2 rfl rfl ?_
  refine K.arraylength dC_3 PA ?_
  refine K.ic_le dC_4 (fun hc2 => ?_) (fun hc2 => ?_)
  · refine K.iconst (0 : Int32) dC_7 rfl ?_
    exact K.ireturn dC_8 (Or.inr (Or.inl rfl)) rfl (by decide) (by decide) ⟨_, rfl, K1, Or.inr ⟨rfl, fun q => by obtain ⟨e, q1, -⟩ := q; have := (own_lt (by omega) (by omega)).mp hc2; omega⟩⟩
  · refine K.aloadN dC_9 rfl rfl ?_
    refine K.callS [.ref d] [] 0 1 5 dC_10 (wd17 hw) (wd18 hw) (wd15 hw) (wd19 hw) (by decide) (rmF l Z a0 hw d m r h n0 PD hm) rfl (lenOf pd_2 rfl) rfl (Nat.le_of_eq rfl) (by decide) (by decide) rfl rfl (by decide) (by decide) (goR fun t3 h4 q5 => ?_)
    obtain ⟨K6, -, g, PT, hG⟩ := q5
    have K7 := K1.trans K6 all0
    have I8 := PA.keep K6 nin0
    have I9 := PD.keep K6 nin0
    refine K.astoreN #[.val (.ref a), .val (.ref d), .val (.ref t3), .unset, .unset, .unset] dC_13 rfl rfl ?_
    refine K.iconst (0 : Int32) dC_14 rfl ?_
    refine K.istoreN #[.val (.ref a), .val (.ref d), .val (.ref t3), .val (.int (0 : Int32)), .unset, .unset] dC_15 rfl ?_
    refine K.iconst (0 : Int32) dC_16 rfl ?_
    refine K.istore #[.val (.ref a), .val (.ref d), .val (.ref t3), .val (.int (0 : Int32)), .val (.int (0 : Int32)), .unset] dC_17 rfl ?_
    by_cases hm0 : m = 0
    · subst hm0
      refine K.iloadN dC_19 rfl ?_
      refine K.aloadN dC_20 rfl rfl ?_
      refine K.arraylength dC_21 I9 ?_
      refine K.ic_ge dC_22 (fun u => absurd u (by decide)) (fun _ => ?_)
      refine K.iloadN dC_76 rfl ?_
      refine K.aloadN dC_77 rfl rfl ?_
      refine K.arraylength dC_78 I9 ?_
      refine K.ic_ne dC_79 (fun _ => ?_) (fun u => absurd rfl u)
      refine K.iconst (1 : Int32) dC_82 rfl ?_
      refine K.goto dC_83 ?_
      exact K.ireturn dC_87 (Or.inr (Or.inl rfl)) rfl (by decide) (by decide) ⟨_, rfl, K7, Or.inl ⟨rfl, 0, by omega, fun j q => absurd q (by omega)⟩⟩
    · have LOOP : ∀ (dd i q : Nat) (x5 : Slot), One x5 → n ≤ i + dd → i ≤ n → Best b r m i q → (∀ e, e ≤ i → ¬ Sfx b r e m) → Wk E h4 1 5 19 #[.val (.ref a), .val (.ref d), .val (.ref t3), .val (.int (Int32.ofNat q)), .val (.int (Int32.ofNat i)), x5] [] := by
        intro dd
        induction dd with
        | zero =>
          intro i q x5 hx5 hd hin hB hN
          have hqm : q < m := hB.2.1
          refine K.iloadN dC_19 rfl ?_
          refine K.aloadN dC_20 rfl rfl ?_
          refine K.arraylength dC_21 I9 ?_
          refine K.ic_ge dC_22 (fun _ => ?_) (fun u => absurd ((own_lt (by omega) (by omega)).mpr hqm) u)
          refine K.iload dC_25 rfl ?_
          refine K.aloadN dC_27 rfl rfl ?_
          refine K.arraylength dC_28 I8 ?_
          refine K.ic_ge dC_29 (fun u => absurd u (fun u => absurd ((own_lt (by omega) (by omega)).mp u) (by omega))) (fun _ => ?_)
          refine K.iloadN dC_76 rfl ?_
          refine K.aloadN dC_77 rfl rfl ?_
          refine K.arraylength dC_78 I9 ?_
          refine K.ic_ne dC_79 (fun u => absurd u (fun u => absurd (own_inj (by omega) (by omega) u) (by have := hB.2.1; omega))) (fun _ => ?_)
          refine K.iconst (0 : Int32) dC_86 rfl ?_
          exact K.ireturn dC_87 (Or.inr (Or.inl rfl)) rfl (by decide) (by decide) ⟨_, rfl, K7, Or.inr ⟨rfl, own_none (by have : i = n := (by omega); exact this ▸ hN)⟩⟩
        | succ dd ih =>
          intro i q x5 hx5 hd hin hB hN
          have hqm : q < m := hB.2.1
          by_cases hi : i < n
          · have T : ∀ q' : Nat, Best b r (m + 1) (i + 1) q' → Wk E h4 1 5 70 #[.val (.ref a), .val (.ref d), .val (.ref t3), .val (.int (Int32.ofNat q')), .val (.int (Int32.ofNat i)), .val (.int (b i))] [] := by
              intro q' hb
              refine K.iinc (Int32.ofNat (i + 1)) #[.val (.ref a), .val (.ref d), .val (.ref t3), .val (.int (Int32.ofNat q')), .val (.int (Int32.ofNat (i + 1))), .val (.int (b i))] dC_70 rfl (inc_ofNat i).symm rfl ?_
              refine K.goto dC_73 ?_
              by_cases hq : q' = m
              · subst hq
                refine K.iloadN dC_19 rfl ?_
                refine K.aloadN dC_20 rfl rfl ?_
                refine K.arraylength dC_21 I9 ?_
                refine K.ic_ge dC_22 (fun u => absurd u (fun u => absurd ((own_lt (by omega) (by omega)).mp u) (by omega))) (fun _ => ?_)
                refine K.iloadN dC_76 rfl ?_
                refine K.aloadN dC_77 rfl rfl ?_
                refine K.arraylength dC_78 I9 ?_
                refine K.ic_ne dC_79 (fun _ => ?_) (fun u => absurd rfl u)
                refine K.iconst (1 : Int32) dC_82 rfl ?_
                refine K.goto dC_83 ?_
                exact K.ireturn dC_87 (Or.inr (Or.inl rfl)) rfl (by decide) (by decide) ⟨_, rfl, K7, Or.inl ⟨rfl, own_found (by omega) hb.1⟩⟩
              · exact ih (i + 1) q' _ (One.val rfl) (by omega) (by omega) ⟨hb.1, by have := hb.2.1; omega, fun k hk hs => hb.2.2 k (by omega) hs⟩ (fun e he => by rcases Nat.lt_or_ge e (i + 1) with c | c; exact hN e (by omega); have : e = i + 1 := (by omega); subst this; intro hs; have := hb.2.2 m (by omega) hs; have := hb.2.1; omega)
            have H : ∀ kk : Nat, Cand b r m i kk → (kk = 0 ∨ b i = r kk) → Wk E h4 1 5 59 #[.val (.ref a), .val (.ref d), .val (.ref t3), .val (.int (Int32.ofNat kk)), .val (.int (Int32.ofNat i)), .val (.int (b i))] [] := by
              intro kk hc hz
              have hkk : kk < m := hc.2.1
              refine K.iload dC_59 rfl ?_
              refine K.aloadN dC_61 rfl rfl ?_
              refine K.iloadN dC_62 rfl ?_
              refine K.baload (v := .int (r kk)) dC_63 I9 (own_nn (by omega)) ((own_lt (by omega) (by omega)).mpr (by omega)) (own_rd r (by omega)) ?_
              refine K.ic_ne dC_64 (fun hc10 => ?_) (fun hc10 => ?_)
              · refine K.iinc (Int32.ofNat (kk + 1)) #[.val (.ref a), .val (.ref d), .val (.ref t3), .val (.int (Int32.ofNat (kk + 1))), .val (.int (Int32.ofNat i)), .val (.int (b i))] dC_67 rfl (inc_ofNat kk).symm rfl ?_
                exact T _ (hc.hit hc10)
              · rcases hz with rfl | hz
                · exact T 0 (hc.miss hc10)
                · exact absurd hz hc10
            have M : ∀ kk : Nat, Cand b r m i kk → Wk E h4 1 5 38 #[.val (.ref a), .val (.ref d), .val (.ref t3), .val (.int (Int32.ofNat kk)), .val (.int (Int32.ofNat i)), .val (.int (b i))] [] := by
              intro kk
              induction kk using Nat.strongRecOn with
              | ind kk ihk =>
                intro hc
                have hkk : kk < m := hc.2.1
                refine K.iloadN dC_38 rfl ?_
                refine K.if_le dC_39 (fun hc11 => ?_) (fun hc11 => ?_)
                · obtain ⟨k2, rfl⟩ : ∃ k2, kk = k2 + 1 := own_pred hc11
                  refine K.iload dC_42 rfl ?_
                  refine K.aloadN dC_44 rfl rfl ?_
                  refine K.iloadN dC_45 rfl ?_
                  refine K.baload (v := .int (r (k2 + 1))) dC_46 I9 (own_nn (by omega)) ((own_lt (by omega) (by omega)).mpr (by omega)) (own_rd r (by omega)) ?_
                  refine K.ic_eq dC_47 (fun hc12 => ?_) (fun hc12 => ?_)
                  · exact H _ hc (Or.inr hc12)
                  · refine K.aloadN dC_50 rfl rfl ?_
                    refine K.iloadN dC_51 rfl ?_
                    refine K.iconst (1 : Int32) dC_52 rfl ?_
                    refine K.isub dC_53 ?_
                    rw [dec_ofNat k2]
                    have hf := hG k2 (by omega)
                    refine K.iaload (v := .int (Int32.ofNat (g k2))) dC_54 PT (own_nn (by omega)) ((own_lt (by omega) (by omega)).mpr (by omega)) (own_ri g (by omega)) ?_
                    refine K.istoreN #[.val (.ref a), .val (.ref d), .val (.ref t3), .val (.int (Int32.ofNat (g k2))), .val (.int (Int32.ofNat i)), .val (.int (b i))] dC_55 rfl ?_
                    refine K.goto dC_56 ?_
                    exact ihk (g k2) hf.2.1 (hc.fall hc12 hf)
                · exact H _ hc (Or.inl (own_zero (by omega) hc11))
            refine K.iloadN dC_19 rfl ?_
            refine K.aloadN dC_20 rfl rfl ?_
            refine K.arraylength dC_21 I9 ?_
            refine K.ic_ge dC_22 (fun _ => ?_) (fun u => absurd ((own_lt (by omega) (by omega)).mpr hqm) u)
            refine K.iload dC_25 rfl ?_
            refine K.aloadN dC_27 rfl rfl ?_
            refine K.arraylength dC_28 I8 ?_
            refine K.ic_ge dC_29 (fun _ => ?_) (fun u => absurd ((own_lt (by omega) (by omega)).mpr hi) u)
            refine K.aloadN dC_32 rfl rfl ?_
            refine K.iload dC_33 rfl ?_
            refine K.baload (v := .int (b i)) dC_35 I8 (own_nn (by omega)) ((own_lt (by omega) (by omega)).mpr (by omega)) (own_rd b (by omega)) ?_
            refine K.istore #[.val (.ref a), .val (.ref d), .val (.ref t3), .val (.int (Int32.ofNat q)), .val (.int (Int32.ofNat i)), .val (.int (b i))] dC_36 (XS.store1 rfl hx5 rfl) ?_
            exact M q hB.cand
          · refine K.iloadN dC_19 rfl ?_
            refine K.aloadN dC_20 rfl rfl ?_
            refine K.arraylength dC_21 I9 ?_
            refine K.ic_ge dC_22 (fun _ => ?_) (fun u => absurd ((own_lt (by omega) (by omega)).mpr hqm) u)
            refine K.iload dC_25 rfl ?_
            refine K.aloadN dC_27 rfl rfl ?_
            refine K.arraylength dC_28 I8 ?_
            refine K.ic_ge dC_29 (fun u => absurd u (fun u => absurd ((own_lt (by omega) (by omega)).mp u) (by omega))) (fun _ => ?_)
            refine K.iloadN dC_76 rfl ?_
            refine K.aloadN dC_77 rfl rfl ?_
            refine K.arraylength dC_78 I9 ?_
            refine K.ic_ne dC_79 (fun u => absurd u (fun u => absurd (own_inj (by omega) (by omega) u) (by have := hB.2.1; omega))) (fun _ => ?_)
            refine K.iconst (0 : Int32) dC_86 rfl ?_
            exact K.ireturn dC_87 (Or.inr (Or.inl rfl)) rfl (by decide) (by decide) ⟨_, rfl, K7, Or.inr ⟨rfl, own_none (by have : i = n := (by omega); exact this ▸ hN)⟩⟩
      exact LOOP n 0 0 _ (Or.inl rfl) (by omega) (by omega) (Best.zero (by omega)) (fun e he hs => absurd hs.1 (by omega))
set_option maxRecDepth 65536 in
set_option maxHeartbeats 40000000 in
theorem rm0 (l : Launch) (Z : State) (a0 : Array Value) (hw : ∀ d ∈ tables_1, d.before a0 Z = true) (p : Int64) (q s t : Int32) (h : Heap) (n0 : Nat)  : Con l Z x code maxLocals ret room_1 #[.long p, .int q, .int s, .int t] h n0 (fun v h' => v = some (.int 1)) := by
  refine Con.of pn0 (fun m_ => ef0 m_ p q s t) (fun E K => ?_)
  refine K.iloadN d0_0 rfl ?_
  refine K.ldcI d0_1 (wd0 hw) ?_
  refine K.iand d0_3 ?_
  refine K.bipush (9 : Int32) d0_4 rfl ?_
  refine K.irem d0_6 (by decide) ?_
  obtain ⟨n, en, hn⟩ := own_rem s 9 8 (by decide) (by decide)
  rw [en]
  refine K.istore #[.val (.long p), .second, .val (.int q), .val (.int s), .val (.int t), .val (.int (Int32.ofNat n)), .unset, .unset, .unset, .unset] d0_7 rfl ?_
  refine K.iloadN d0_9 rfl ?_
  refine K.bipush (8 : Int32) d0_10 rfl ?_
  refine K.iushr d0_12 ?_
  refine K.ldcI d0_13 (wd0 hw) ?_
  refine K.iand d0_15 ?_
  refine K.bipush (6 : Int32) d0_16 rfl ?_
  refine K.irem d0_18 (by decide) ?_
  obtain ⟨m, em, hm⟩ := own_rem (s.toUInt32 >>> ((8 : Int32) &&& 31).toUInt32).toInt32 6 5 (by decide) (by decide)
  rw [em]
  refine K.istore #[.val (.long p), .second, .val (.int q), .val (.int s), .val (.int t), .val (.int (Int32.ofNat n)), .val (.int (Int32.ofNat m)), .unset, .unset, .unset] d0_19 rfl ?_
  refine K.iload d0_21 rfl ?_
  refine K.iload d0_23 rfl ?_
  refine K.lloadN d0_25 rfl ?_
  refine K.callS [.int (Int32.ofNat n), .int t, .long p] [] 0 1 8 d0_26 (wd1 hw) (wd2 hw) (wd3 hw) (wd4 hw) (by decide) (rmM l Z a0 hw n t p h n0 (by omega)) rfl (lenOf pd_3 rfl) rfl (Nat.le_of_eq rfl) (by decide) (by decide) rfl rfl (by decide) (by decide) (goR fun t1 h2 q3 => ?_)
  obtain ⟨K4, g5, A6, e7⟩ := q3
  refine K.astore #[.val (.long p), .second, .val (.int q), .val (.int s), .val (.int t), .val (.int (Int32.ofNat n)), .val (.int (Int32.ofNat m)), .val (.ref t1), .unset, .unset] d0_29 rfl rfl ?_
  refine K.iload d0_31 rfl ?_
  refine K.iload d0_33 rfl ?_
  refine K.iloadN d0_35 rfl ?_
  refine K.i2l d0_36 ?_
  refine K.callS [.int (Int32.ofNat m), .int t, .long q.toInt64] [] 0 2 16 d0_37 (wd1 hw) (wd2 hw) (wd3 hw) (wd4 hw) (by decide) (rmM l Z a0 hw m t q.toInt64 h2 n0 (by omega)) rfl (lenOf pd_3 rfl) rfl (Nat.le_of_eq rfl) (by decide) (by decide) rfl rfl (by decide) (by decide) (goR fun t8 h9 q10 => ?_)
  obtain ⟨K11, g12, A13, e14⟩ := q10
  have lt_t1_t8 : t1 < t8 := Nat.lt_of_lt_of_le A6.lt g12
  have I15 := A6.keep K11 nin0
  refine K.astore #[.val (.long p), .second, .val (.int q), .val (.int s), .val (.int t), .val (.int (Int32.ofNat n)), .val (.int (Int32.ofNat m)), .val (.ref t1), .val (.ref t8), .unset] d0_40 rfl rfl ?_
  refine cut (P := ∀ z : Int32, (z = 1 ∧ (∃ e, e ≤ 8 ∧ own_at n m e (own_lets t p) (own_lets t q.toInt64) = 1) ∨ z = 0 ∧ ∀ e, e ≤ 8 → own_at n m e (own_lets t p) (own_lets t q.toInt64) = 0) → Wk E h9 2 16 185 #[.val (.long p), .second, .val (.int q), .val (.int s), .val (.int t), .val (.int (Int32.ofNat n)), .val (.int (Int32.ofNat m)), .val (.ref t1), .val (.ref t8), .unset] [.int z]) (fun J16 => ?_) ?_
  · refine K.aload d0_42 rfl rfl ?_
    refine K.iload d0_44 rfl ?_
    refine K.aload d0_46 rfl rfl ?_
    refine K.iload d0_48 rfl ?_
    refine K.iconst (0 : Int32) d0_50 rfl ?_
    refine K.callS [.ref t1, .int (Int32.ofNat n), .ref t8, .int (Int32.ofNat m), .int (0 : Int32)] [] 0 2 16 d0_51 (wd10 hw) (wd11 hw) (wd3 hw) (wd12 hw) (by decide) (rmA l Z a0 hw t1 t8 n m 0 (own_lets t p) (own_lets t q.toInt64) h9 n0 I15 A13 hn hm (by decide)) rfl (lenOf pd_4 rfl) rfl (Nat.le_of_eq rfl) (by decide) (by decide) rfl rfl (by decide) (by decide) (goP ?_)
    refine K.if_ne d0_54 (fun hc17 => ?_) (fun hc17 => ?_)
    · refine K.aload d0_57 rfl rfl ?_
      refine K.iload d0_59 rfl ?_
      refine K.aload d0_61 rfl rfl ?_
      refine K.iload d0_63 rfl ?_
      refine K.iconst (1 : Int32) d0_65 rfl ?_
      refine K.callS [.ref t1, .int (Int32.ofNat n), .ref t8, .int (Int32.ofNat m), .int (1 : Int32)] [] 0 2 16 d0_66 (wd10 hw) (wd11 hw) (wd3 hw) (wd12 hw) (by decide) (rmA l Z a0 hw t1 t8 n m 1 (own_lets t p) (own_lets t q.toInt64) h9 n0 I15 A13 hn hm (by decide)) rfl (lenOf pd_4 rfl) rfl (Nat.le_of_eq rfl) (by decide) (by decide) rfl rfl (by decide) (by decide) (goP ?_)
      refine K.if_ne d0_69 (fun hc18 => ?_) (fun hc18 => ?_)
      · refine K.aload d0_72 rfl rfl ?_
        refine K.iload d0_74 rfl ?_
        refine K.aload d0_76 rfl rfl ?_
        refine K.iload d0_78 rfl ?_
        refine K.iconst (2 : Int32) d0_80 rfl ?_
        refine K.callS [.ref t1, .int (Int32.ofNat n), .ref t8, .int (Int32.ofNat m), .int (2 : Int32)] [] 0 2 16 d0_81 (wd10 hw) (wd11 hw) (wd3 hw) (wd12 hw) (by decide) (rmA l Z a0 hw t1 t8 n m 2 (own_lets t p) (own_lets t q.toInt64) h9 n0 I15 A13 hn hm (by decide)) rfl (lenOf pd_4 rfl) rfl (Nat.le_of_eq rfl) (by decide) (by decide) rfl rfl (by decide) (by decide) (goP ?_)
        refine K.if_ne d0_84 (fun hc19 => ?_) (fun hc19 => ?_)
        · refine K.aload d0_87 rfl rfl ?_
          refine K.iload d0_89 rfl ?_
          refine K.aload d0_91 rfl rfl ?_
          refine K.iload d0_93 rfl ?_
          refine K.iconst (3 : Int32) d0_95 rfl ?_
          refine K.callS [.ref t1, .int (Int32.ofNat n), .ref t8, .int (Int32.ofNat m), .int (3 : Int32)] [] 0 2 16 d0_96 (wd10 hw) (wd11 hw) (wd3 hw) (wd12 hw) (by decide) (rmA l Z a0 hw t1 t8 n m 3 (own_lets t p) (own_lets t q.toInt64) h9 n0 I15 A13 hn hm (by decide)) rfl (lenOf pd_4 rfl) rfl (Nat.le_of_eq rfl) (by decide) (by decide) rfl rfl (by decide) (by decide) (goP ?_)
          refine K.if_ne d0_99 (fun hc20 => ?_) (fun hc20 => ?_)
          · refine K.aload d0_102 rfl rfl ?_
            refine K.iload d0_104 rfl ?_
            refine K.aload d0_106 rfl rfl ?_
            refine K.iload d0_108 rfl ?_
            refine K.iconst (4 : Int32) d0_110 rfl ?_
            refine K.callS [.ref t1, .int (Int32.ofNat n), .ref t8, .int (Int32.ofNat m), .int (4 : Int32)] [] 0 2 16 d0_111 (wd10 hw) (wd11 hw) (wd3 hw) (wd12 hw) (by decide) (rmA l Z a0 hw t1 t8 n m 4 (own_lets t p) (own_lets t q.toInt64) h9 n0 I15 A13 hn hm (by decide)) rfl (lenOf pd_4 rfl) rfl (Nat.le_of_eq rfl) (by decide) (by decide) rfl rfl (by decide) (by decide) (goP ?_)
            refine K.if_ne d0_114 (fun hc21 => ?_) (fun hc21 => ?_)
            · refine K.aload d0_117 rfl rfl ?_
              refine K.iload d0_119 rfl ?_
              refine K.aload d0_121 rfl rfl ?_
              refine K.iload d0_123 rfl ?_
              refine K.iconst (5 : Int32) d0_125 rfl ?_
              refine K.callS [.ref t1, .int (Int32.ofNat n), .ref t8, .int (Int32.ofNat m), .int (5 : Int32)] [] 0 2 16 d0_126 (wd10 hw) (wd11 hw) (wd3 hw) (wd12 hw) (by decide) (rmA l Z a0 hw t1 t8 n m 5 (own_lets t p) (own_lets t q.toInt64) h9 n0 I15 A13 hn hm (by decide)) rfl (lenOf pd_4 rfl) rfl (Nat.le_of_eq rfl) (by decide) (by decide) rfl rfl (by decide) (by decide) (goP ?_)
              refine K.if_ne d0_129 (fun hc22 => ?_) (fun hc22 => ?_)
              · refine K.aload d0_132 rfl rfl ?_
                refine K.iload d0_134 rfl ?_
                refine K.aload d0_136 rfl rfl ?_
                refine K.iload d0_138 rfl ?_
                refine K.bipush (6 : Int32) d0_140 rfl ?_
                refine K.callS [.ref t1, .int (Int32.ofNat n), .ref t8, .int (Int32.ofNat m), .int (6 : Int32)] [] 0 2 16 d0_142 (wd10 hw) (wd11 hw) (wd3 hw) (wd12 hw) (by decide) (rmA l Z a0 hw t1 t8 n m 6 (own_lets t p) (own_lets t q.toInt64) h9 n0 I15 A13 hn hm (by decide)) rfl (lenOf pd_4 rfl) rfl (Nat.le_of_eq rfl) (by decide) (by decide) rfl rfl (by decide) (by decide) (goP ?_)
                refine K.if_ne d0_145 (fun hc23 => ?_) (fun hc23 => ?_)
                · refine K.aload d0_148 rfl rfl ?_
                  refine K.iload d0_150 rfl ?_
                  refine K.aload d0_152 rfl rfl ?_
                  refine K.iload d0_154 rfl ?_
                  refine K.bipush (7 : Int32) d0_156 rfl ?_
                  refine K.callS [.ref t1, .int (Int32.ofNat n), .ref t8, .int (Int32.ofNat m), .int (7 : Int32)] [] 0 2 16 d0_158 (wd10 hw) (wd11 hw) (wd3 hw) (wd12 hw) (by decide) (rmA l Z a0 hw t1 t8 n m 7 (own_lets t p) (own_lets t q.toInt64) h9 n0 I15 A13 hn hm (by decide)) rfl (lenOf pd_4 rfl) rfl (Nat.le_of_eq rfl) (by decide) (by decide) rfl rfl (by decide) (by decide) (goP ?_)
                  refine K.if_ne d0_161 (fun hc24 => ?_) (fun hc24 => ?_)
                  · refine K.aload d0_164 rfl rfl ?_
                    refine K.iload d0_166 rfl ?_
                    refine K.aload d0_168 rfl rfl ?_
                    refine K.iload d0_170 rfl ?_
                    refine K.bipush (8 : Int32) d0_172 rfl ?_
                    refine K.callS [.ref t1, .int (Int32.ofNat n), .ref t8, .int (Int32.ofNat m), .int (8 : Int32)] [] 0 2 16 d0_174 (wd10 hw) (wd11 hw) (wd3 hw) (wd12 hw) (by decide) (rmA l Z a0 hw t1 t8 n m 8 (own_lets t p) (own_lets t q.toInt64) h9 n0 I15 A13 hn hm (by decide)) rfl (lenOf pd_4 rfl) rfl (Nat.le_of_eq rfl) (by decide) (by decide) rfl rfl (by decide) (by decide) (goP ?_)
                    refine K.if_eq d0_177 (fun hc25 => ?_) (fun hc25 => ?_)
                    · refine K.iconst (0 : Int32) d0_184 rfl ?_
                      exact J16 _ (Or.inr ⟨rfl, fun e he => by rcases own_upto he with rfl | rfl | rfl | rfl | rfl | rfl | rfl | rfl | rfl <;> assumption⟩)
                    · refine K.iconst (1 : Int32) d0_180 rfl ?_
                      refine K.goto d0_181 ?_
                      exact J16 _ (Or.inl ⟨rfl, 8, by decide, own_at_one hc25⟩)
                  · refine K.iconst (1 : Int32) d0_180 rfl ?_
                    refine K.goto d0_181 ?_
                    exact J16 _ (Or.inl ⟨rfl, 7, by decide, own_at_one hc24⟩)
                · refine K.iconst (1 : Int32) d0_180 rfl ?_
                  refine K.goto d0_181 ?_
                  exact J16 _ (Or.inl ⟨rfl, 6, by decide, own_at_one hc23⟩)
              · refine K.iconst (1 : Int32) d0_180 rfl ?_
                refine K.goto d0_181 ?_
                exact J16 _ (Or.inl ⟨rfl, 5, by decide, own_at_one hc22⟩)
            · refine K.iconst (1 : Int32) d0_180 rfl ?_
              refine K.goto d0_181 ?_
              exact J16 _ (Or.inl ⟨rfl, 4, by decide, own_at_one hc21⟩)
          · refine K.iconst (1 : Int32) d0_180 rfl ?_
            refine K.goto d0_181 ?_
            exact J16 _ (Or.inl ⟨rfl, 3, by decide, own_at_one hc20⟩)
        · refine K.iconst (1 : Int32) d0_180 rfl ?_
          refine K.goto d0_181 ?_
          exact J16 _ (Or.inl ⟨rfl, 2, by decide, own_at_one hc19⟩)
      · refine K.iconst (1 : Int32) d0_180 rfl ?_
        refine K.goto d0_181 ?_
        exact J16 _ (Or.inl ⟨rfl, 1, by decide, own_at_one hc18⟩)
    · refine K.iconst (1 : Int32) d0_180 rfl ?_
      refine K.goto d0_181 ?_
      exact J16 _ (Or.inl ⟨rfl, 0, by decide, own_at_one hc17⟩)
  intro z hz
  refine K.istore #[.val (.long p), .second, .val (.int q), .val (.int s), .val (.int t), .val (.int (Int32.ofNat n)), .val (.int (Int32.ofNat m)), .val (.ref t1), .val (.ref t8), .val (.int z)] d0_185 rfl ?_
  refine K.aload d0_187 rfl rfl ?_
  refine K.aload d0_189 rfl rfl ?_
  refine K.callS [.ref t1, .ref t8] [] 0 3 21 d0_191 (wd13 hw) (wd14 hw) (wd15 hw) (wd16 hw) (by decide) (rmC l Z a0 hw t1 t8 n m (own_lets t p) (own_lets t q.toInt64) h9 n0 I15 A13 hn hm) rfl (lenOf pd_5 rfl) rfl (Nat.le_of_eq rfl) (by decide) (by decide) rfl rfl (by decide) (by decide) (goI fun zc26 h27 q28 => ?_)
  obtain ⟨K29, hcon⟩ := q28
  have I30 := I15.keep K29 nin0
  have I31 := A13.keep K29 nin0
  refine K.iload d0_194 rfl ?_
  refine K.ic_ne d0_196 (fun _ => ?_) (fun u => absurd (own_final hn hcon hz) u)
  refine K.iconst (1 : Int32) d0_199 rfl ?_
  refine K.goto d0_200 ?_
  exact K.ireturn d0_204 (Or.inr (Or.inl rfl)) rfl (by decide) (by decide) rfl
set_option maxRecDepth 65536 in
set_option maxHeartbeats 40000000 in
theorem comes_1 {Post : Tables → Env → Array Value → State → Outcome → State → Prop} (hpost : ∀ tb e args s v u, (limb_1_1.after args s (.returned v) u = true ∧ limb_1_2.after args s (.returned v) u = true ∧ True) → FrameEnd s (.returned v) u (Jvm.fieldLocs frame_1_writes args s ++ Jvm.arrayLocs frame_1_arrays args s ++ Jvm.staticLocs frame_1_statics s) 16 128 → Post tb e args s (.returned v) u) :
    ArmFor flags0 classFile x code maxLocals ret World_1 tables_1 room_1 Calls_1 rest_1 Pre_1 Post := by
  intro l hfl _ _ p e ha hc hk s m args below hf hA hF happ hP
  obtain ⟨hcalls, hrest, hpre⟩ := hP
  obtain ⟨-, -, -, hnamed, -, -, -, hat⟩ := (Spec.applies_iff hf).mp happ
  obtain ⟨hg, hn⟩ := and_e (Cond.before_iff.mp (show (Jvm.Cond.and given_1 narrow_1).before args s = true from hpre))
  obtain ⟨hcount, hk0⟩ := and_e hg
  obtain ⟨ha0, hk1⟩ := and_e hk0
  obtain ⟨ha1, hk2⟩ := and_e hk1
  obtain ⟨ha2, hk3⟩ := and_e hk2
  obtain ⟨w0, w1, w2, w3, rfl⟩ : ∃ w0 w1 w2 w3 : Value, args = #[w0, w1, w2, w3] := by
    have hs : args.size = 4 := by simpa [Cond.value, given_1] using hcount
    obtain ⟨L⟩ := args
    match L, hs with
    | [w0, w1, w2, w3], _ => exact ⟨w0, w1, w2, w3, rfl⟩
  have hw := fun d (hd : d ∈ tables_1) => atoms_spec (ws := Jvm.Cond.code x code maxLocals ret :: tables_1) hat d (List.mem_cons_of_mem _ hd)
  obtain ⟨i0, e0⟩ := isL_v ha0
  obtain rfl : w0 = (.long i0) := Option.some.inj e0
  obtain ⟨i1, e1⟩ := is_v ha1
  obtain rfl : w1 = (.int i1) := Option.some.inj e1
  obtain ⟨i2, e2⟩ := is_v ha2
  obtain rfl : w2 = (.int i2) := Option.some.inj e2
  obtain ⟨i3, e3⟩ := is_v hk3
  obtain rfl : w3 = (.int i3) := Option.some.inj e3

  obtain ⟨n, o, h1, h2, h3, _, L, rfl, ⟨rfl, N⟩, hq⟩ := rm0 l s _ hw i0 i1 i2 i3  s.heap s.heap.size  (Nat.le_refl _) tables_1 p e ha hc hk s m _ below hf ((Spec.applies_iff_loose hf).mp happ).1 ⟨rfl, State.Warmed39.refl s, rfl⟩ trivial
  refine ⟨n, _, h1, h2, h3, hpost _ _ _ _ _ _ ⟨Cond.after_iff.mpr rfl, Cond.after_iff.mpr (eq_i res_at (Term.int_eval (1)) rfl), trivial⟩ ⟨hq.1, hq.2.1, (hq.2.2.sift fun y hy => Or.inr (N y hy)).mono (by decide) (by decide)⟩⟩
theorem main_1_1 : Claimed_1_1 := comes_1 fun _ _ _ _ _ _ h hF => ⟨h.1, hF⟩
theorem main_1_2 : Claimed_1_2 := comes_1 fun _ _ _ _ _ _ h hF => ⟨h.2.1, hF⟩
end Jvm.Pilot.@@N@@
namespace Jvm.Pilot.@@N@@
open Jvm Jvm.ClassFile Sem Op Lib Jvm.Free Jvm.Stand Jvm.Pilot.@@N@@.Jvm.D
/-! MADE BY PROGRAM (witnessworld.py) out of the Statement's table words and the real class files: 9 classes; the members and pool entries that the words name. The judged class is class 1, her method 4. -/
namespace start1
open Jvm.ClassFile
def u (s : String) : CpInfo := .utf8 (stringToUtf16 s)
/-- a pool by its gaps: so many unusable entries, then the entry; so many at the end -/
def gap : Nat → List CpInfo → List CpInfo
  | 0, r => r
  | n + 1, r => .unusable :: gap n r
def poolList (es : List (Nat × CpInfo)) (last : Nat) : List CpInfo := es.foldr (fun e r => gap e.1 (e.2 :: r)) (gap last [])
def pool (es : List (Nat × CpInfo)) (last : Nat) : Array CpInfo := ⟨poolList es last⟩
def fileOf (pool : Array CpInfo) (this : Nat) (attrs : Array Attribute := #[]) (ms : Array MethodInfo := #[]) (fl : Nat := 33) (sup : Nat := 0) (ifs : Array Nat := #[]) (fds : Array FieldInfo := #[]) : ClassFile where
  minorVersion := 0
  majorVersion := 65
  constantPool := pool
  accessFlags := fl
  thisClass := this
  superClass := sup
  interfaces := ifs
  fields := fds
  methods := ms
  attributes := attrs
def plain (name : String) (sup : Option ClassId) : Class where
  name := name
  kind := .ordinary
  loader := none
  accessFlags := 33
  super := sup
  interfaces := #[]
  cf := none
  fields := #[]
  methods := #[]
  instanceTypes := #[]
  staticTypes := #[]
  resolved := #[]
  callSites := []
  init := .initialized
  statics := none
  mirror := none

def pool0 : Array CpInfo := pool [(5, u "<init>"), (0, u "()V"), (1, .class_ 10), (1, u "java/lang/Object")] 113

def k0m0 : Method := { name := "<init>", desc := "()V", sig := { parameters := [], returnType := none }, accessFlags := 1, code := none }
/-- java/lang/Object -/
def k0 : Class := { plain "java/lang/Object" none with
  accessFlags := 33
  interfaces := #[]
  cf := some (fileOf pool0 8 #[] #[{ accessFlags := 1, nameIndex := 5, descriptorIndex := 6, attributes := #[] }] 33 0 #[] #[])
  fields := #[]
  methods := #[k0m0]
  instanceTypes := #[]
  staticTypes := #[]
  resolved := Array.replicate 124 none
  statics := none }

def pool1 : Array CpInfo := pool [(2, .class_ 4), (1, u "java/lang/Object"), (0, u "<init>"), (0, u "()V"), (0, .long 3), (1, .methodref 10 11), (0, .class_ 12), (0, .nameAndType 13 14), (0, u "com/example/briareus/briareus/ByteSearchContainsPinLaw"), (0, u "letter"), (0, u "(IJI)B"), (0, .integer 2147483647), (0, .methodref 10 17), (0, .nameAndType 18 19), (0, u "make"), (0, u "(IIJ)[B"), (0, .methodref 10 21), (0, .nameAndType 22 23), (0, u "at"), (0, u "([BI[BII)Z"), (0, .methodref 25 26), (0, .class_ 27), (0, .nameAndType 28 29), (0, u "com/example/briareus/briareus/ByteSearch"), (0, u "contains"), (0, u "([B[B)Z"), (5, u "law"), (0, u "(JIII)Z")] 2

def k1m0 : Method := { name := "<init>", desc := "()V", sig := { parameters := [], returnType := none }, accessFlags := 2, code := none }
def k1c1 : Code := { maxStack := 4, maxLocals := 5, code := method_2_code, exceptionTable := #[], attributes := #[] }
def k1m1 : Method := { name := "letter", desc := "(IJI)B", sig := { parameters := [.int, .long, .int], returnType := some .byte }, accessFlags := 10, code := some k1c1 }
def k1c2 : Code := { maxStack := 6, maxLocals := 5, code := method_3_code, exceptionTable := #[], attributes := #[] }
def k1m2 : Method := { name := "make", desc := "(IIJ)[B", sig := { parameters := [.int, .int, .long], returnType := some (.array .byte) }, accessFlags := 10, code := some k1c2 }
def k1c3 : Code := { maxStack := 4, maxLocals := 5, code := method_4_code, exceptionTable := #[], attributes := #[] }
def k1m3 : Method := { name := "at", desc := "([BI[BII)Z", sig := { parameters := [(.array .byte), .int, (.array .byte), .int, .int], returnType := some .boolean }, accessFlags := 10, code := some k1c3 }
def k1c4 : Code := { maxStack := 5, maxLocals := 10, code := code, exceptionTable := #[], attributes := #[] }
def k1m4 : Method := { name := "law", desc := "(JIII)Z", sig := { parameters := [.long, .int, .int, .int], returnType := some .boolean }, accessFlags := 9, code := some k1c4 }
/-- com/example/briareus/briareus/ByteSearchContainsPinLaw -/
def k1 : Class := { plain "com/example/briareus/briareus/ByteSearchContainsPinLaw" (some 0) with
  accessFlags := 49
  interfaces := #[]
  cf := some (fileOf pool1 10 #[] #[{ accessFlags := 2, nameIndex := 5, descriptorIndex := 6, attributes := #[] }, { accessFlags := 10, nameIndex := 13, descriptorIndex := 14, attributes := #[] }, { accessFlags := 10, nameIndex := 18, descriptorIndex := 19, attributes := #[] }, { accessFlags := 10, nameIndex := 22, descriptorIndex := 23, attributes := #[] }, { accessFlags := 9, nameIndex := 35, descriptorIndex := 36, attributes := #[] }] 49 2 #[] #[])
  fields := #[]
  methods := #[k1m0, k1m1, k1m2, k1m3, k1m4]
  instanceTypes := #[]
  staticTypes := #[]
  resolved := Array.replicate 39 none
  statics := none }

def pool2 : Array CpInfo := pool [(2, .class_ 4), (1, u "java/lang/Object"), (0, u "<init>"), (0, u "()V"), (0, .methodref 8 9), (0, .class_ 10), (0, .nameAndType 11 12), (0, u "com/example/briareus/briareus/ByteSearch"), (0, u "fallbacks"), (0, u "([B)[I"), (2, u "contains"), (0, u "([B[B)Z")] 5

def k2m0 : Method := { name := "<init>", desc := "()V", sig := { parameters := [], returnType := none }, accessFlags := 2, code := none }
def k2c1 : Code := { maxStack := 3, maxLocals := 6, code := prog_2_method_2_code, exceptionTable := #[], attributes := #[] }
def k2m1 : Method := { name := "contains", desc := "([B[B)Z", sig := { parameters := [(.array .byte), (.array .byte)], returnType := some .boolean }, accessFlags := 8, code := some k2c1 }
def k2c2 : Code := { maxStack := 3, maxLocals := 4, code := prog_2_method_3_code, exceptionTable := #[], attributes := #[] }
def k2m2 : Method := { name := "fallbacks", desc := "([B)[I", sig := { parameters := [(.array .byte)], returnType := some (.array .int) }, accessFlags := 10, code := some k2c2 }
/-- com/example/briareus/briareus/ByteSearch -/
def k2 : Class := { plain "com/example/briareus/briareus/ByteSearch" (some 0) with
  accessFlags := 48
  interfaces := #[]
  cf := some (fileOf pool2 8 #[] #[{ accessFlags := 2, nameIndex := 5, descriptorIndex := 6, attributes := #[] }, { accessFlags := 8, nameIndex := 15, descriptorIndex := 16, attributes := #[] }, { accessFlags := 10, nameIndex := 11, descriptorIndex := 12, attributes := #[] }] 48 2 #[] #[])
  fields := #[]
  methods := #[k2m0, k2m1, k2m2]
  instanceTypes := #[]
  staticTypes := #[]
  resolved := Array.replicate 22 none
  statics := none }

def pool3 : Array CpInfo := pool [(1, u "java/lang/Cloneable"), (0, .class_ 1), (0, u "java/lang/Object"), (0, .class_ 3)] 3

/-- java/lang/Cloneable -/
def k3 : Class := { plain "java/lang/Cloneable" (some 0) with
  accessFlags := 1537
  interfaces := #[]
  cf := some (fileOf pool3 2 #[] #[] 1537 4 #[] #[])
  fields := #[]
  methods := #[]
  instanceTypes := #[]
  staticTypes := #[]
  resolved := Array.replicate 8 none
  statics := none }

def pool4 : Array CpInfo := pool [(1, u "java/io/Serializable"), (0, .class_ 1), (0, u "java/lang/Object"), (0, .class_ 3)] 3

/-- java/io/Serializable -/
def k4 : Class := { plain "java/io/Serializable" (some 0) with
  accessFlags := 1537
  interfaces := #[]
  cf := some (fileOf pool4 2 #[] #[] 1537 4 #[] #[])
  fields := #[]
  methods := #[]
  instanceTypes := #[]
  staticTypes := #[]
  resolved := Array.replicate 8 none
  statics := none }

/-- the primitive byte -/
def k5 : Class := { plain "byte" none with kind := .primitive 'B', accessFlags := 0x411 }
/-- [B -/
def k6 : Class := { plain "[B" (some 0) with kind := .array 5 .byte, interfaces := #[3, 4], accessFlags := 1041 }

/-- the primitive int -/
def k7 : Class := { plain "int" none with kind := .primitive 'I', accessFlags := 0x411 }
/-- [I -/
def k8 : Class := { plain "[I" (some 0) with kind := .array 7 .int, interfaces := #[3, 4], accessFlags := 1041 }

def heap : Heap := #[]
def classes : Array Class := #[k0, k1, k2, k3, k4, k5, k6, k7, k8]
def interned : List (Array UInt16 × Addr) := []
def slotsUsed : Nat := 0
def theMethod : MethodId := ⟨1, 4⟩
def args0 : Array Value := #[.long 4, .int 9, .int 1, .int 2]
def aboutOver (below : List Frame) : State where
  vm := { classes := classes, interned := interned.toArray }
  heap := heap
  slotsUsed := slotsUsed
  threads := #[{ frames := .invoking theMethod args0 :: below }]
def below0 : List Frame := [.native { method := ⟨0, 0⟩, args := #[] }]
def about1 : State := aboutOver below0
def p0 : Program := .bare "" "" ""
def e0 : Env := launch0.env 0 0 0
theorem w_frames : about1.frames = Frame.invoking theMethod args0 :: below0 := rfl
set_option maxRecDepth 65536 in
theorem w_args : argsFit about1.vm theMethod args0 = true := by decide +kernel
set_option maxRecDepth 65536 in
theorem w_heap : heapFits about1 = true := by decide +kernel
set_option maxRecDepth 65536 in
theorem w_runnable : about1.curStatus? = some .runnable := by decide +kernel
set_option maxRecDepth 65536 in
theorem w_alone : about1.alone = true := by decide +kernel
set_option maxRecDepth 65536 in
theorem w_named : about1.methodNamed? x = some theMethod := by decide +kernel
set_option maxRecDepth 65536 in
theorem w_hears : about1.hears theMethod below0 = true := by decide +kernel
set_option maxRecDepth 65536 in
theorem w_ripe : about1.ripe theMethod args0 below0 = true := by decide +kernel
theorem w_running : about1.status = .running := rfl
set_option maxRecDepth 65536 in
theorem w_room : about1.hasRoom e0.platform room_1 = true :=
  launch0.hasRoom_least _ room_1 (by decide +kernel) (by decide +kernel) (by decide +kernel) (by decide +kernel) (by decide +kernel) (by decide +kernel)
theorem allAtoms_all (ts : List Jvm.Cond) (a : Array Jvm.Value) (st : Jvm.State) : (allAtoms ts).before a st = ts.all (fun c => c.before a st) := by
  induction ts with
  | nil => rfl
  | cons c t ih =>
    show (Jvm.Cond.and c (allAtoms t)).before a st = _
    rw [Jvm.Cond.before_and, ih, List.all_cons]
def words1 : List Jvm.Cond := Jvm.Cond.code x code maxLocals ret :: tables_1
/-- a 'code' word, met by the world's own term for the bytes: nothing is compared byte by byte -/
theorem code_word {y : MethodName} {bytes : ByteArray} {mx : Nat} {rt : Option FieldType} {a : Array Value} {s : State} {m : MethodId} {meth : Method} {c : Code} (h1 : s.methodNamed? y = some m) (h2 : s.vm.method? m = some meth) (h3 : meth.code = some c) (h4 : c.code = bytes)
    (h5 : (c.maxLocals == mx && c.exceptionTable.isEmpty && decide (c.maxStack ≤ mostOperands) && decide (meth.sig.returnType = rt) && !meth.locks && decide (parseMethodDescriptor y.desc = some meth.sig)) = true) : (Jvm.Cond.code y bytes mx rt).before a s = true := by
  simp only [Bool.and_eq_true, beq_iff_eq, Bool.not_eq_true', decide_eq_true_eq] at h5
  obtain ⟨⟨⟨⟨⟨g1, g2⟩, g3⟩, g4⟩, g5⟩, g6⟩ := h5
  simp [Cond.before, Cond.holds, Cond.value, h1, h2, h3, h4, g1, g2, g3, g4, g5, g6]
def isCode : Jvm.Cond → Bool
  | .code _ _ _ _ => true
  | _ => false
theorem all_split {L : List Jvm.Cond} {P : Jvm.Cond → Bool} (h1 : L.all (fun c => isCode c || P c) = true) (h2 : ∀ c ∈ L.filter isCode, P c = true) : L.all P = true := by
  refine List.all_eq_true.mpr fun c hc => ?_
  have h := List.all_eq_true.mp h1 c hc
  rcases Bool.eq_false_or_eq_true (isCode c) with hi | hi
  · exact h2 c (List.mem_filter.mpr ⟨hc, hi⟩)
  · simpa [hi] using h
set_option maxRecDepth 65536 in
theorem w_c0 : (Jvm.Cond.code x code maxLocals ret).before args0 about1 = true := code_word (m := ⟨1, 4⟩) (meth := k1m4) (c := k1c4) (by decide +kernel) rfl rfl rfl (by decide +kernel)
set_option maxRecDepth 65536 in
theorem w_c1 : (Jvm.Cond.code ({ cls := "com/example/briareus/briareus/ByteSearchContainsPinLaw", name := "make", desc := "(IIJ)[B" } : Jvm.MethodName) method_3_code (5 : Nat) (Option.some (Jvm.ClassFile.FieldType.array Jvm.ClassFile.FieldType.byte))).before args0 about1 = true := code_word (m := ⟨1, 2⟩) (meth := k1m2) (c := k1c2) (by decide +kernel) rfl rfl rfl (by decide +kernel)
set_option maxRecDepth 65536 in
theorem w_c2 : (Jvm.Cond.code ({ cls := "com/example/briareus/briareus/ByteSearchContainsPinLaw", name := "letter", desc := "(IJI)B" } : Jvm.MethodName) method_2_code (5 : Nat) (Option.some Jvm.ClassFile.FieldType.byte)).before args0 about1 = true := code_word (m := ⟨1, 1⟩) (meth := k1m1) (c := k1c1) (by decide +kernel) rfl rfl rfl (by decide +kernel)
set_option maxRecDepth 65536 in
theorem w_c3 : (Jvm.Cond.code ({ cls := "com/example/briareus/briareus/ByteSearchContainsPinLaw", name := "at", desc := "([BI[BII)Z" } : Jvm.MethodName) method_4_code (5 : Nat) (Option.some Jvm.ClassFile.FieldType.boolean)).before args0 about1 = true := code_word (m := ⟨1, 3⟩) (meth := k1m3) (c := k1c3) (by decide +kernel) rfl rfl rfl (by decide +kernel)
set_option maxRecDepth 65536 in
theorem w_c4 : (Jvm.Cond.code ({ cls := "com/example/briareus/briareus/ByteSearch", name := "contains", desc := "([B[B)Z" } : Jvm.MethodName) prog_2_method_2_code (6 : Nat) (Option.some Jvm.ClassFile.FieldType.boolean)).before args0 about1 = true := code_word (m := ⟨2, 1⟩) (meth := k2m1) (c := k2c1) (by decide +kernel) rfl rfl rfl (by decide +kernel)
set_option maxRecDepth 65536 in
theorem w_c5 : (Jvm.Cond.code ({ cls := "com/example/briareus/briareus/ByteSearch", name := "fallbacks", desc := "([B)[I" } : Jvm.MethodName) prog_2_method_3_code (4 : Nat) (Option.some (Jvm.ClassFile.FieldType.array Jvm.ClassFile.FieldType.int))).before args0 about1 = true := code_word (m := ⟨2, 2⟩) (meth := k2m2) (c := k2c2) (by decide +kernel) rfl rfl rfl (by decide +kernel)
def codes1 : List Jvm.Cond := [Jvm.Cond.code x code maxLocals ret, Jvm.Cond.code ({ cls := "com/example/briareus/briareus/ByteSearchContainsPinLaw", name := "make", desc := "(IIJ)[B" } : Jvm.MethodName) method_3_code (5 : Nat) (Option.some (Jvm.ClassFile.FieldType.array Jvm.ClassFile.FieldType.byte)), Jvm.Cond.code ({ cls := "com/example/briareus/briareus/ByteSearchContainsPinLaw", name := "letter", desc := "(IJI)B" } : Jvm.MethodName) method_2_code (5 : Nat) (Option.some Jvm.ClassFile.FieldType.byte), Jvm.Cond.code ({ cls := "com/example/briareus/briareus/ByteSearchContainsPinLaw", name := "at", desc := "([BI[BII)Z" } : Jvm.MethodName) method_4_code (5 : Nat) (Option.some Jvm.ClassFile.FieldType.boolean), Jvm.Cond.code ({ cls := "com/example/briareus/briareus/ByteSearch", name := "contains", desc := "([B[B)Z" } : Jvm.MethodName) prog_2_method_2_code (6 : Nat) (Option.some Jvm.ClassFile.FieldType.boolean), Jvm.Cond.code ({ cls := "com/example/briareus/briareus/ByteSearch", name := "fallbacks", desc := "([B)[I" } : Jvm.MethodName) prog_2_method_3_code (4 : Nat) (Option.some (Jvm.ClassFile.FieldType.array Jvm.ClassFile.FieldType.int))]
set_option maxRecDepth 65536 in
theorem codes_eq : words1.filter isCode = codes1 := rfl
theorem w_codes : ∀ c ∈ words1.filter isCode, c.before args0 about1 = true := by
  rw [codes_eq]
  intro c hc
  simp only [codes1, List.mem_cons, List.not_mem_nil, or_false] at hc
  rcases hc with rfl | rfl | rfl | rfl | rfl | rfl
  · exact w_c0
  · exact w_c1
  · exact w_c2
  · exact w_c3
  · exact w_c4
  · exact w_c5
set_option maxRecDepth 65536 in
theorem w_t1 : words1.all (fun c => isCode c || c.before args0 about1) = true := by decide +kernel
theorem w_tables : (allAtoms (Jvm.Cond.code x code maxLocals ret :: tables_1)).before args0 about1 = true := by
  rw [allAtoms_all]
  show words1.all (fun c => c.before args0 about1) = true
  refine all_split ?_ w_codes
  rw [w_t1]
set_option maxRecDepth 65536 in
theorem w_case : (Jvm.Cond.and given_1 narrow_1).before args0 about1 = true := by decide +kernel
theorem w_applies : (headSpec (Jvm.Cond.code x code maxLocals ret :: tables_1) room_1).applies x e0.platform about1 = true :=
  (Spec.applies_iff w_frames).mpr ⟨w_running, w_runnable, w_alone, w_named, w_hears, w_ripe, w_room, w_tables⟩
theorem atStart : AtStart classFile x code maxLocals ret World_1 tables_1 room_1 Calls_1 rest_1 Pre_1 launch0 p0 e0 about1 theMethod args0 below0 :=
  ⟨lists_1, trivial, launch0.admits_env _ _ _, launch0.least_env, fairChoices_fair.cas, fairChoices_fair.clock, w_frames, w_args, w_heap, w_applies, trivial, trivial, w_case⟩
end start1
theorem witness_1 : WitnessClaimed_1 := ⟨start1.p0, start1.e0, start1.about1, start1.theMethod, start1.args0, start1.below0, start1.atStart⟩
end Jvm.Pilot.@@N@@
