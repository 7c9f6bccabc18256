import JvmDerived
import JvmDerived.Pilot.@@N@@Statement
import JvmDerived.Pilot.@@N@@Code
set_option linter.unusedVariables false
set_option linter.unusedSimpArgs false
namespace Jvm.Pilot.@@N@@
open Jvm Jvm.ClassFile Sem Op Lib Jvm.Free Jvm.Stand Jvm.LawKit Jvm.RoadKit Bundle Jvm.Pilot.@@N@@.Jvm.D
section Own
theorem cut {P G : Prop} (f : P → G) (g : P) : G := f g
theorem ha_ge {h0 h : Heap} {a : Addr} (q : h0.size ≤ h.size) (e : a = h.size) : h0.size ≤ a := by rw [e]; exact q
/-- what stands fixed in one invocation's walk -/
abbrev Ev : Type := Program × Launch × Env × Room × State × MethodId × Array Value × List Frame × Method × Code × Nat × (Option Value → Heap → Prop)
def Dc (bytes : ByteArray) (pc : Nat) (i : Instr) (len pc' : Nat) : Prop := decode bytes pc = .ok (i, len) ∧ pc + len = pc'
def Db (bytes : ByteArray) (pc : Nat) (i : Instr) (o : Int) (pc1 pc2 : Nat) : Prop := decode bytes pc = .ok (i, 3) ∧ pc + 3 = pc1 ∧ 0 ≤ (pc : Int) + o ∧ ((pc : Int) + o).toNat = pc2
/-- from this heap, these counts, pc, locals and stack the invocation comes to a return of which its Q holds -/
def Wk : Ev → Heap → Nat → Nat → Nat → Array Slot → List Value → Prop
  | (p, l, e, R, s, m, args, below, meth, c, n0, Q), h, kc, kn, pc, ls, st => ∀ (T : State) (locs : List Loc), Stand p l e R s m args below meth c T locs kc kn → T.heap = h → Fr n0 locs →
    ∃ s₂ o, Steps p.tables e below (T.setTop (mkF m pc ls st)) s₂ ∧ s₂.status = .running ∧ Ended s₂ below o ∧ ∃ v L, o = .returned v ∧ (Q v s₂.heap ∧ Fr n0 L) ∧ FrameEnd s o s₂ L R.cells R.slots
def Kf (p : Program) (s : State) (m : MethodId) (meth : Method) (c : Code) (y : MethodName) (bytes : ByteArray) (ml : Nat) (rt : Option FieldType) (Z : State) (n0 : Nat) : Prop :=
  p.tables.exec = Jvm.exec ∧ c.code = bytes ∧ c.maxLocals = ml ∧ meth.sig.returnType = rt ∧ meth.locks = false ∧ Z.Warmed39 s.vm ∧ s.vm.findClass y.cls = some m.cls ∧ meth.name = y.name ∧ n0 ≤ s.heap.size
def Kx (E : Ev) (y : MethodName) (bytes : ByteArray) (ml : Nat) (rt : Option FieldType) (l : Launch) (Z : State) (R : Room) (n0 : Nat) (Q : Option Value → Heap → Prop) : Prop :=
  ∃ p e s m args below meth c, E = (p, l, e, R, s, m, args, below, meth, c, n0, Q) ∧ Kf p s m meth c y bytes ml rt Z n0
/-- a callee's contract at one heap and one row of arguments -/
def Con (l : Launch) (Z : State) (y : MethodName) (bytes : ByteArray) (ml : Nat) (rt : Option FieldType) (rm : Room) (as : Array Value) (h : Heap) (n0 : Nat) (Q : Option Value → Heap → Prop) : Prop :=
  n0 ≤ h.size → ∀ ws : List Jvm.Cond, MetFree l y (head1 (Jvm.Cond.code y bytes ml rt :: ws) rm) (fun a U => a = as ∧ Z.Warmed39 U.vm ∧ U.heap = h) (fun _ _ _ _ _ => True) (fun _ U o U' => ∃ v L, o = .returned v ∧ (Q v U'.heap ∧ Fr n0 L) ∧ FrameEnd U o U' L rm.cells rm.slots)
variable {E : Ev} {y : MethodName} {bytes : ByteArray} {ml : Nat} {rt : Option FieldType} {l : Launch} {Z : State} {R : Room} {n0 : Nat} {Q : Option Value → Heap → Prop} {a0 : Array Value} {h h' : Heap} {kc kn kc' kn' pc pc' pc1 pc2 : Nat} {ls ls' : Array Slot} {st : List Value} {a b : Addr}
theorem Con.of (pn : plainFor y = true) {as : Array Value} {rm : Room} (ef : ∀ m, entryFrame m as ml = mkF m 0 ls []) (body : ∀ E : Ev, Kx E y bytes ml rt l Z rm n0 Q → Wk E h 0 0 0 ls []) : Con l Z y bytes ml rt rm as h n0 Q := by
  intro hn ws
  refine MetFree.of_bodySF pn hisR ?_
  intro p e s m args below meth c s₁ Bd hml0 hP hK
  obtain ⟨ha, hZ, hh⟩ := hP
  subst ha
  have X0 : Stand p l e rm s m args below meth c s₁ [] 0 0 := Stand.of_body Bd
  have e0 : s₁.heap = h := by rw [← hh, Bd.state]; rfl
  obtain ⟨s₂, o, q, r⟩ := body (p, l, e, rm, s, m, args, below, meth, c, n0, Q) ⟨p, e, s, m, args, below, meth, c, rfl, Bd.exec, Bd.bytes, hml0, Bd.returns, Bd.notSynchronized, hZ, findClass_of_methodNamed Bd.named, (name_of_methodNamed Bd.named Bd.method).1, by rw [hh]; exact hn⟩ s₁ [] X0 e0 (Fr.nil n0)
  exact ⟨s₂, o, castTop (ef m) q, r⟩
theorem Kx.lift {st' : List Value} (K : Kx E y bytes ml rt l Z R n0 Q) (f : ∀ (p : Program) (e : Env) (s : State) (m : MethodId) (args : Array Value) (below : List Frame) (meth : Method) (c : Code), Kf p s m meth c y bytes ml rt Z n0 → ∀ (T : State) (locs : List Loc), Stand p l e R s m args below meth c T locs kc kn → T.heap = h → ∀ t, Steps p.tables e below (T.setTop (mkF m pc' ls' st)) t → Steps p.tables e below (T.setTop (mkF m pc ls st')) t) (k : Wk E h kc kn pc' ls' st) : Wk E h kc kn pc ls st' := by
  obtain ⟨p, e, s, m, args, below, meth, c, rfl, F⟩ := K
  intro T locs X eT N
  obtain ⟨s₂, o, q, r⟩ := k T locs X eT N
  exact ⟨s₂, o, f p e s m args below meth c F T locs X eT s₂ q, r⟩
theorem Kx.move (K : Kx E y bytes ml rt l Z R n0 Q) (f : ∀ (p : Program) (e : Env) (s : State) (m : MethodId) (args : Array Value) (below : List Frame) (meth : Method) (c : Code), Kf p s m meth c y bytes ml rt Z n0 → ∀ (T : State) (locs : List Loc), Stand p l e R s m args below meth c T locs kc kn → T.heap = h → Fr n0 locs →
    ∃ (T' : State) (locs' : List Loc) (h' : Heap) (kc' kn' pc' : Nat) (ls' : Array Slot) (st' : List Value), Stand p l e R s m args below meth c T' locs' kc' kn' ∧ T'.heap = h' ∧ Fr n0 locs' ∧ h.size ≤ h'.size ∧ Wk E h' kc' kn' pc' ls' st' ∧ ∀ t, Steps p.tables e below (T'.setTop (mkF m pc' ls' st')) t → Steps p.tables e below (T.setTop (mkF m pc ls st)) t) : Wk E h kc kn pc ls st := by
  obtain ⟨p, e, s, m, args, below, meth, c, rfl, F⟩ := K
  intro T locs X eT N
  obtain ⟨T', locs', h', kc', kn', pc', ls', st', X', e', N', -, k, q'⟩ := f p e s m args below meth c F T locs X eT N
  obtain ⟨s₂, o, q, r⟩ := k T' locs' X' e' N'
  exact ⟨s₂, o, q' _ q, r⟩

theorem Kx.aloadN (K : Kx E y bytes ml rt l Z R n0 Q) {k : Fin 4} {v : Value} (hd : Dc bytes pc (.aload_n k) 1 pc') (hl : ls[k.val]? = some (.val v)) (hv : v.isRef = true) (k : Wk E h kc kn pc' ls (v :: st)) : Wk E h kc kn pc ls st := by
  obtain ⟨hd, rfl⟩ := hd
  exact K.lift (fun p e s m args below meth c F T locs X eT t q => XS.aloadN X.here F.1 rfl (hb F.2.1 hd) hl hv q) k
theorem Kx.iloadN (K : Kx E y bytes ml rt l Z R n0 Q) {k : Fin 4} {v : Int32} (hd : Dc bytes pc (.iload_n k) 1 pc') (hl : ls[k.val]? = some (.val (.int v))) (k : Wk E h kc kn pc' ls (.int v :: st)) : Wk E h kc kn pc ls st := by
  obtain ⟨hd, rfl⟩ := hd
  exact K.lift (fun p e s m args below meth c F T locs X eT t q => XS.iloadN X.here F.1 rfl (hb F.2.1 hd) hl q) k
theorem Kx.lloadN (K : Kx E y bytes ml rt l Z R n0 Q) {k : Fin 4} {v : Int64} (hd : Dc bytes pc (.lload_n k) 1 pc') (hl : ls[k.val]? = some (.val (.long v))) (k : Wk E h kc kn pc' ls (.long v :: st)) : Wk E h kc kn pc ls st := by
  obtain ⟨hd, rfl⟩ := hd
  exact K.lift (fun p e s m args below meth c F T locs X eT t q => XS.lloadN X.here F.1 rfl (hb F.2.1 hd) hl q) k
theorem Kx.istoreN (K : Kx E y bytes ml rt l Z R n0 Q) {k : Fin 4} {x : Int32} (ls' : Array Slot) (hd : Dc bytes pc (.istore_n k) 1 pc') (hl : storeLocals ls k.val (.int x) = some ls') (k : Wk E h kc kn pc' ls' st) : Wk E h kc kn pc ls (.int x :: st) := by
  obtain ⟨hd, rfl⟩ := hd
  exact K.lift (fun p e s m args below meth c F T locs X eT t q => XS.istoreN X.here F.1 rfl (hb F.2.1 hd) rfl hl q) k
theorem Kx.lstoreN (K : Kx E y bytes ml rt l Z R n0 Q) {k : Fin 4} {x : Int64} (ls' : Array Slot) (hd : Dc bytes pc (.lstore_n k) 1 pc') (hl : storeLocals ls k.val (.long x) = some ls') (k : Wk E h kc kn pc' ls' st) : Wk E h kc kn pc ls (.long x :: st) := by
  obtain ⟨hd, rfl⟩ := hd
  exact K.lift (fun p e s m args below meth c F T locs X eT t q => XS.lstoreN X.here F.1 rfl (hb F.2.1 hd) rfl hl q) k
theorem Kx.astoreN (K : Kx E y bytes ml rt l Z R n0 Q) {k : Fin 4} {x : Value} (ls' : Array Slot) (hd : Dc bytes pc (.astore_n k) 1 pc') (hv : x.isRef = true) (hl : storeLocals ls k.val x = some ls') (k : Wk E h kc kn pc' ls' st) : Wk E h kc kn pc ls (x :: st) := by
  obtain ⟨hd, rfl⟩ := hd
  exact K.lift (fun p e s m args below meth c F T locs X eT t q => XS.astoreN X.here F.1 rfl (hb F.2.1 hd) rfl hv hl q) k
theorem Kx.aload (K : Kx E y bytes ml rt l Z R n0 Q) {k : Nat} {v : Value} (hd : Dc bytes pc (.aload k) 2 pc') (hl : ls[k]? = some (.val v)) (hv : v.isRef = true) (k : Wk E h kc kn pc' ls (v :: st)) : Wk E h kc kn pc ls st := by
  obtain ⟨hd, rfl⟩ := hd
  exact K.lift (fun p e s m args below meth c F T locs X eT t q => XS.aload X.here F.1 rfl (hb F.2.1 hd) hl hv q) k
theorem Kx.iload (K : Kx E y bytes ml rt l Z R n0 Q) {k : Nat} {v : Int32} (hd : Dc bytes pc (.iload k) 2 pc') (hl : ls[k]? = some (.val (.int v))) (k : Wk E h kc kn pc' ls (.int v :: st)) : Wk E h kc kn pc ls st := by
  obtain ⟨hd, rfl⟩ := hd
  exact K.lift (fun p e s m args below meth c F T locs X eT t q => XS.iload X.here F.1 rfl (hb F.2.1 hd) hl q) k
theorem Kx.lload (K : Kx E y bytes ml rt l Z R n0 Q) {k : Nat} {v : Int64} (hd : Dc bytes pc (.lload k) 2 pc') (hl : ls[k]? = some (.val (.long v))) (k : Wk E h kc kn pc' ls (.long v :: st)) : Wk E h kc kn pc ls st := by
  obtain ⟨hd, rfl⟩ := hd
  exact K.lift (fun p e s m args below meth c F T locs X eT t q => XS.lload X.here F.1 rfl (hb F.2.1 hd) hl q) k
theorem Kx.istore (K : Kx E y bytes ml rt l Z R n0 Q) {k : Nat} {x : Int32} (ls' : Array Slot) (hd : Dc bytes pc (.istore k) 2 pc') (hl : storeLocals ls k (.int x) = some ls') (k : Wk E h kc kn pc' ls' st) : Wk E h kc kn pc ls (.int x :: st) := by
  obtain ⟨hd, rfl⟩ := hd
  exact K.lift (fun p e s m args below meth c F T locs X eT t q => XS.istore X.here F.1 rfl (hb F.2.1 hd) rfl hl q) k
theorem Kx.lstore (K : Kx E y bytes ml rt l Z R n0 Q) {k : Nat} {x : Int64} (ls' : Array Slot) (hd : Dc bytes pc (.lstore k) 2 pc') (hl : storeLocals ls k (.long x) = some ls') (k : Wk E h kc kn pc' ls' st) : Wk E h kc kn pc ls (.long x :: st) := by
  obtain ⟨hd, rfl⟩ := hd
  exact K.lift (fun p e s m args below meth c F T locs X eT t q => XS.lstore X.here F.1 rfl (hb F.2.1 hd) rfl hl q) k
theorem Kx.astore (K : Kx E y bytes ml rt l Z R n0 Q) {k : Nat} {x : Value} (ls' : Array Slot) (hd : Dc bytes pc (.astore k) 2 pc') (hv : x.isRef = true) (hl : storeLocals ls k x = some ls') (k : Wk E h kc kn pc' ls' st) : Wk E h kc kn pc ls (x :: st) := by
  obtain ⟨hd, rfl⟩ := hd
  exact K.lift (fun p e s m args below meth c F T locs X eT t q => XS.astore X.here F.1 rfl (hb F.2.1 hd) rfl hv hl q) k
theorem Kx.iinc (K : Kx E y bytes ml rt l Z R n0 Q) {k : Nat} {cst : Int} {x : Int32} (z : Int32) (ls' : Array Slot) (hd : Dc bytes pc (.iinc k cst) 3 pc') (hl : ls[k]? = some (.val (.int x))) (hz : x + Int32.ofInt cst = z) (hl' : storeLocals ls k (.int z) = some ls') (k : Wk E h kc kn pc' ls' st) : Wk E h kc kn pc ls st := by
  obtain ⟨hd, rfl⟩ := hd
  exact K.lift (fun p e s m args below meth c F T locs X eT t q => XS.iinc X.here F.1 rfl (hb F.2.1 hd) hl (by rw [hz]; exact hl') q) k
theorem Kx.iconst (K : Kx E y bytes ml rt l Z R n0 Q) {i : Int} (z : Int32) (hd : Dc bytes pc (.iconst i) 1 pc') (hz : Int32.ofInt i = z) (k : Wk E h kc kn pc' ls (.int z :: st)) : Wk E h kc kn pc ls st := by
  obtain ⟨hd, rfl⟩ := hd
  exact K.lift (fun p e s m args below meth c F T locs X eT t q => XS.iconst X.here F.1 rfl (hb F.2.1 hd) (by rw [hz]; exact q)) k
theorem Kx.lconst (K : Kx E y bytes ml rt l Z R n0 Q) {i : Fin 2} (z : Int64) (hd : Dc bytes pc (.lconst i) 1 pc') (hz : Int64.ofNat i = z) (k : Wk E h kc kn pc' ls (.long z :: st)) : Wk E h kc kn pc ls st := by
  obtain ⟨hd, rfl⟩ := hd
  exact K.lift (fun p e s m args below meth c F T locs X eT t q => XS.lconst X.here F.1 rfl (hb F.2.1 hd) (by rw [hz]; exact q)) k
theorem Kx.bipush (K : Kx E y bytes ml rt l Z R n0 Q) {i : Int} (z : Int32) (hd : Dc bytes pc (.bipush i) 2 pc') (hz : (Int8.ofInt i).toInt32 = z) (k : Wk E h kc kn pc' ls (.int z :: st)) : Wk E h kc kn pc ls st := by
  obtain ⟨hd, rfl⟩ := hd
  exact K.lift (fun p e s m args below meth c F T locs X eT t q => XS.bipush X.here F.1 rfl (hb F.2.1 hd) (by rw [hz]; exact q)) k
theorem Kx.sipush (K : Kx E y bytes ml rt l Z R n0 Q) {i : Int} (z : Int32) (hd : Dc bytes pc (.sipush i) 3 pc') (hz : (Int16.ofInt i).toInt32 = z) (k : Wk E h kc kn pc' ls (.int z :: st)) : Wk E h kc kn pc ls st := by
  obtain ⟨hd, rfl⟩ := hd
  exact K.lift (fun p e s m args below meth c F T locs X eT t q => XS.sipush X.here F.1 rfl (hb F.2.1 hd) (by rw [hz]; exact q)) k
theorem Kx.aconst_null (K : Kx E y bytes ml rt l Z R n0 Q)  (hd : Dc bytes pc .aconst_null 1 pc') (k : Wk E h kc kn pc' ls (.null :: st)) : Wk E h kc kn pc ls st := by
  obtain ⟨hd, rfl⟩ := hd
  exact K.lift (fun p e s m args below meth c F T locs X eT t q => XS.aconstNull X.here F.1 rfl (hb F.2.1 hd) q) k
theorem Kx.iadd (K : Kx E y bytes ml rt l Z R n0 Q) {x y' : Int32} (hd : Dc bytes pc .iadd 1 pc') (k : Wk E h kc kn pc' ls (.int (x + y') :: st)) : Wk E h kc kn pc ls (.int y' :: .int x :: st) := by
  obtain ⟨hd, rfl⟩ := hd
  exact K.lift (fun p e s m args below meth c F T locs X eT t q => XS.iadd X.here F.1 rfl (hb F.2.1 hd) rfl q) k
theorem Kx.isub (K : Kx E y bytes ml rt l Z R n0 Q) {x y' : Int32} (hd : Dc bytes pc .isub 1 pc') (k : Wk E h kc kn pc' ls (.int (x - y') :: st)) : Wk E h kc kn pc ls (.int y' :: .int x :: st) := by
  obtain ⟨hd, rfl⟩ := hd
  exact K.lift (fun p e s m args below meth c F T locs X eT t q => XS.isub X.here F.1 rfl (hb F.2.1 hd) rfl q) k
theorem Kx.imul (K : Kx E y bytes ml rt l Z R n0 Q) {x y' : Int32} (hd : Dc bytes pc .imul 1 pc') (k : Wk E h kc kn pc' ls (.int (x * y') :: st)) : Wk E h kc kn pc ls (.int y' :: .int x :: st) := by
  obtain ⟨hd, rfl⟩ := hd
  exact K.lift (fun p e s m args below meth c F T locs X eT t q => XS.imul X.here F.1 rfl (hb F.2.1 hd) rfl q) k
theorem Kx.iand (K : Kx E y bytes ml rt l Z R n0 Q) {x y' : Int32} (hd : Dc bytes pc .iand 1 pc') (k : Wk E h kc kn pc' ls (.int (x &&& y') :: st)) : Wk E h kc kn pc ls (.int y' :: .int x :: st) := by
  obtain ⟨hd, rfl⟩ := hd
  exact K.lift (fun p e s m args below meth c F T locs X eT t q => XS.iand X.here F.1 rfl (hb F.2.1 hd) rfl q) k
theorem Kx.ior (K : Kx E y bytes ml rt l Z R n0 Q) {x y' : Int32} (hd : Dc bytes pc .ior 1 pc') (k : Wk E h kc kn pc' ls (.int (x ||| y') :: st)) : Wk E h kc kn pc ls (.int y' :: .int x :: st) := by
  obtain ⟨hd, rfl⟩ := hd
  exact K.lift (fun p e s m args below meth c F T locs X eT t q => XS.ior X.here F.1 rfl (hb F.2.1 hd) rfl q) k
theorem Kx.ixor (K : Kx E y bytes ml rt l Z R n0 Q) {x y' : Int32} (hd : Dc bytes pc .ixor 1 pc') (k : Wk E h kc kn pc' ls (.int (x ^^^ y') :: st)) : Wk E h kc kn pc ls (.int y' :: .int x :: st) := by
  obtain ⟨hd, rfl⟩ := hd
  exact K.lift (fun p e s m args below meth c F T locs X eT t q => XS.ixor X.here F.1 rfl (hb F.2.1 hd) rfl q) k
theorem Kx.ishl (K : Kx E y bytes ml rt l Z R n0 Q) {x y' : Int32} (hd : Dc bytes pc .ishl 1 pc') (k : Wk E h kc kn pc' ls (.int (x <<< (y' &&& 31)) :: st)) : Wk E h kc kn pc ls (.int y' :: .int x :: st) := by
  obtain ⟨hd, rfl⟩ := hd
  exact K.lift (fun p e s m args below meth c F T locs X eT t q => XS.ishl X.here F.1 rfl (hb F.2.1 hd) rfl q) k
theorem Kx.ishr (K : Kx E y bytes ml rt l Z R n0 Q) {x y' : Int32} (hd : Dc bytes pc .ishr 1 pc') (k : Wk E h kc kn pc' ls (.int (x >>> (y' &&& 31)) :: st)) : Wk E h kc kn pc ls (.int y' :: .int x :: st) := by
  obtain ⟨hd, rfl⟩ := hd
  exact K.lift (fun p e s m args below meth c F T locs X eT t q => XS.ishr X.here F.1 rfl (hb F.2.1 hd) rfl q) k
theorem Kx.iushr (K : Kx E y bytes ml rt l Z R n0 Q) {x y' : Int32} (hd : Dc bytes pc .iushr 1 pc') (k : Wk E h kc kn pc' ls (.int ((x.toUInt32 >>> (y' &&& 31).toUInt32).toInt32) :: st)) : Wk E h kc kn pc ls (.int y' :: .int x :: st) := by
  obtain ⟨hd, rfl⟩ := hd
  exact K.lift (fun p e s m args below meth c F T locs X eT t q => XS.iushr X.here F.1 rfl (hb F.2.1 hd) rfl q) k
theorem Kx.ladd (K : Kx E y bytes ml rt l Z R n0 Q) {x y' : Int64} (hd : Dc bytes pc .ladd 1 pc') (k : Wk E h kc kn pc' ls (.long (x + y') :: st)) : Wk E h kc kn pc ls (.long y' :: .long x :: st) := by
  obtain ⟨hd, rfl⟩ := hd
  exact K.lift (fun p e s m args below meth c F T locs X eT t q => XS.ladd X.here F.1 rfl (hb F.2.1 hd) rfl q) k
theorem Kx.lsub (K : Kx E y bytes ml rt l Z R n0 Q) {x y' : Int64} (hd : Dc bytes pc .lsub 1 pc') (k : Wk E h kc kn pc' ls (.long (x - y') :: st)) : Wk E h kc kn pc ls (.long y' :: .long x :: st) := by
  obtain ⟨hd, rfl⟩ := hd
  exact K.lift (fun p e s m args below meth c F T locs X eT t q => XS.lsub X.here F.1 rfl (hb F.2.1 hd) rfl q) k
theorem Kx.lmul (K : Kx E y bytes ml rt l Z R n0 Q) {x y' : Int64} (hd : Dc bytes pc .lmul 1 pc') (k : Wk E h kc kn pc' ls (.long (x * y') :: st)) : Wk E h kc kn pc ls (.long y' :: .long x :: st) := by
  obtain ⟨hd, rfl⟩ := hd
  exact K.lift (fun p e s m args below meth c F T locs X eT t q => XS.lmul X.here F.1 rfl (hb F.2.1 hd) rfl q) k
theorem Kx.land (K : Kx E y bytes ml rt l Z R n0 Q) {x y' : Int64} (hd : Dc bytes pc .land 1 pc') (k : Wk E h kc kn pc' ls (.long (x &&& y') :: st)) : Wk E h kc kn pc ls (.long y' :: .long x :: st) := by
  obtain ⟨hd, rfl⟩ := hd
  exact K.lift (fun p e s m args below meth c F T locs X eT t q => XS.land X.here F.1 rfl (hb F.2.1 hd) rfl q) k
theorem Kx.lor (K : Kx E y bytes ml rt l Z R n0 Q) {x y' : Int64} (hd : Dc bytes pc .lor 1 pc') (k : Wk E h kc kn pc' ls (.long (x ||| y') :: st)) : Wk E h kc kn pc ls (.long y' :: .long x :: st) := by
  obtain ⟨hd, rfl⟩ := hd
  exact K.lift (fun p e s m args below meth c F T locs X eT t q => XS.lor X.here F.1 rfl (hb F.2.1 hd) rfl q) k
theorem Kx.lxor (K : Kx E y bytes ml rt l Z R n0 Q) {x y' : Int64} (hd : Dc bytes pc .lxor 1 pc') (k : Wk E h kc kn pc' ls (.long (x ^^^ y') :: st)) : Wk E h kc kn pc ls (.long y' :: .long x :: st) := by
  obtain ⟨hd, rfl⟩ := hd
  exact K.lift (fun p e s m args below meth c F T locs X eT t q => XS.lxor X.here F.1 rfl (hb F.2.1 hd) rfl q) k
theorem Kx.lshl (K : Kx E y bytes ml rt l Z R n0 Q) {x : Int64} {y' : Int32} (hd : Dc bytes pc .lshl 1 pc') (k : Wk E h kc kn pc' ls (.long (x <<< (y' &&& 63).toInt64) :: st)) : Wk E h kc kn pc ls (.int y' :: .long x :: st) := by
  obtain ⟨hd, rfl⟩ := hd
  exact K.lift (fun p e s m args below meth c F T locs X eT t q => XS.lshl X.here F.1 rfl (hb F.2.1 hd) rfl q) k
theorem Kx.lshr (K : Kx E y bytes ml rt l Z R n0 Q) {x : Int64} {y' : Int32} (hd : Dc bytes pc .lshr 1 pc') (k : Wk E h kc kn pc' ls (.long (x >>> (y' &&& 63).toInt64) :: st)) : Wk E h kc kn pc ls (.int y' :: .long x :: st) := by
  obtain ⟨hd, rfl⟩ := hd
  exact K.lift (fun p e s m args below meth c F T locs X eT t q => XS.lshr X.here F.1 rfl (hb F.2.1 hd) rfl q) k
theorem Kx.lushr (K : Kx E y bytes ml rt l Z R n0 Q) {x : Int64} {y' : Int32} (hd : Dc bytes pc .lushr 1 pc') (k : Wk E h kc kn pc' ls (.long ((x.toUInt64 >>> (y' &&& 63).toInt64.toUInt64).toInt64) :: st)) : Wk E h kc kn pc ls (.int y' :: .long x :: st) := by
  obtain ⟨hd, rfl⟩ := hd
  exact K.lift (fun p e s m args below meth c F T locs X eT t q => XS.lushr X.here F.1 rfl (hb F.2.1 hd) rfl q) k
theorem Kx.idiv (K : Kx E y bytes ml rt l Z R n0 Q) {x y' : Int32} (hd : Dc bytes pc .idiv 1 pc') (hy : y' ≠ 0) (k : Wk E h kc kn pc' ls (.int (x / y') :: st)) : Wk E h kc kn pc ls (.int y' :: .int x :: st) := by
  obtain ⟨hd, rfl⟩ := hd
  exact K.lift (fun p e s m args below meth c F T locs X eT t q => XS.idiv X.here F.1 rfl (hb F.2.1 hd) rfl hy q) k
theorem Kx.irem (K : Kx E y bytes ml rt l Z R n0 Q) {x y' : Int32} (hd : Dc bytes pc .irem 1 pc') (hy : y' ≠ 0) (k : Wk E h kc kn pc' ls (.int (x % y') :: st)) : Wk E h kc kn pc ls (.int y' :: .int x :: st) := by
  obtain ⟨hd, rfl⟩ := hd
  exact K.lift (fun p e s m args below meth c F T locs X eT t q => RoadKit.iremM X F.1 rfl (hb F.2.1 hd) rfl hy q) k
theorem Kx.ldiv (K : Kx E y bytes ml rt l Z R n0 Q) {x y' : Int64} (hd : Dc bytes pc .ldiv 1 pc') (hy : y' ≠ 0) (k : Wk E h kc kn pc' ls (.long (x / y') :: st)) : Wk E h kc kn pc ls (.long y' :: .long x :: st) := by
  obtain ⟨hd, rfl⟩ := hd
  exact K.lift (fun p e s m args below meth c F T locs X eT t q => XS.ldiv X.here F.1 rfl (hb F.2.1 hd) rfl hy q) k
theorem Kx.lrem (K : Kx E y bytes ml rt l Z R n0 Q) {x y' : Int64} (hd : Dc bytes pc .lrem 1 pc') (hy : y' ≠ 0) (k : Wk E h kc kn pc' ls (.long (x % y') :: st)) : Wk E h kc kn pc ls (.long y' :: .long x :: st) := by
  obtain ⟨hd, rfl⟩ := hd
  exact K.lift (fun p e s m args below meth c F T locs X eT t q => XS.lrem X.here F.1 rfl (hb F.2.1 hd) rfl hy (by rw [lrem_mod]; exact q)) k
theorem Kx.ineg (K : Kx E y bytes ml rt l Z R n0 Q) {x : Int32} (hd : Dc bytes pc .ineg 1 pc') (k : Wk E h kc kn pc' ls (.int (-x) :: st)) : Wk E h kc kn pc ls (.int x :: st) := by
  obtain ⟨hd, rfl⟩ := hd
  exact K.lift (fun p e s m args below meth c F T locs X eT t q => XS.ineg X.here F.1 rfl (hb F.2.1 hd) rfl q) k
theorem Kx.lneg (K : Kx E y bytes ml rt l Z R n0 Q) {x : Int64} (hd : Dc bytes pc .lneg 1 pc') (k : Wk E h kc kn pc' ls (.long (-x) :: st)) : Wk E h kc kn pc ls (.long x :: st) := by
  obtain ⟨hd, rfl⟩ := hd
  exact K.lift (fun p e s m args below meth c F T locs X eT t q => XS.lneg X.here F.1 rfl (hb F.2.1 hd) rfl q) k
theorem Kx.i2l (K : Kx E y bytes ml rt l Z R n0 Q) {x : Int32} (hd : Dc bytes pc .i2l 1 pc') (k : Wk E h kc kn pc' ls (.long (x.toInt64) :: st)) : Wk E h kc kn pc ls (.int x :: st) := by
  obtain ⟨hd, rfl⟩ := hd
  exact K.lift (fun p e s m args below meth c F T locs X eT t q => XS.i2l X.here F.1 rfl (hb F.2.1 hd) rfl q) k
theorem Kx.l2i (K : Kx E y bytes ml rt l Z R n0 Q) {x : Int64} (hd : Dc bytes pc .l2i 1 pc') (k : Wk E h kc kn pc' ls (.int (x.toInt32) :: st)) : Wk E h kc kn pc ls (.long x :: st) := by
  obtain ⟨hd, rfl⟩ := hd
  exact K.lift (fun p e s m args below meth c F T locs X eT t q => XS.l2i X.here F.1 rfl (hb F.2.1 hd) rfl q) k
theorem Kx.i2b (K : Kx E y bytes ml rt l Z R n0 Q) {x : Int32} (hd : Dc bytes pc .i2b 1 pc') (k : Wk E h kc kn pc' ls (.int (x.toInt8.toInt32) :: st)) : Wk E h kc kn pc ls (.int x :: st) := by
  obtain ⟨hd, rfl⟩ := hd
  exact K.lift (fun p e s m args below meth c F T locs X eT t q => XS.i2b X.here F.1 rfl (hb F.2.1 hd) rfl q) k
theorem Kx.i2c (K : Kx E y bytes ml rt l Z R n0 Q) {x : Int32} (hd : Dc bytes pc .i2c 1 pc') (k : Wk E h kc kn pc' ls (.int (x.toUInt32.toUInt16.toUInt32.toInt32) :: st)) : Wk E h kc kn pc ls (.int x :: st) := by
  obtain ⟨hd, rfl⟩ := hd
  exact K.lift (fun p e s m args below meth c F T locs X eT t q => XS.i2c X.here F.1 rfl (hb F.2.1 hd) rfl q) k
theorem Kx.i2s (K : Kx E y bytes ml rt l Z R n0 Q) {x : Int32} (hd : Dc bytes pc .i2s 1 pc') (k : Wk E h kc kn pc' ls (.int (x.toInt16.toInt32) :: st)) : Wk E h kc kn pc ls (.int x :: st) := by
  obtain ⟨hd, rfl⟩ := hd
  exact K.lift (fun p e s m args below meth c F T locs X eT t q => XS.i2s X.here F.1 rfl (hb F.2.1 hd) rfl q) k
theorem Kx.dup (K : Kx E y bytes ml rt l Z R n0 Q) {x : Value} (hd : Dc bytes pc .dup 1 pc') (hc : x.category = 1) (k : Wk E h kc kn pc' ls (x :: x :: st)) : Wk E h kc kn pc ls (x :: st) := by
  obtain ⟨hd, rfl⟩ := hd
  exact K.lift (fun p e s m args below meth c F T locs X eT t q => XS.dup X.here F.1 rfl (hb F.2.1 hd) rfl hc q) k
theorem Kx.pop (K : Kx E y bytes ml rt l Z R n0 Q) {x : Value} (hd : Dc bytes pc .pop 1 pc') (hc : x.category = 1) (k : Wk E h kc kn pc' ls st) : Wk E h kc kn pc ls (x :: st) := by
  obtain ⟨hd, rfl⟩ := hd
  exact K.lift (fun p e s m args below meth c F T locs X eT t q => XS.pop X.here F.1 rfl (hb F.2.1 hd) rfl hc q) k
theorem Kx.dup_x1 (K : Kx E y bytes ml rt l Z R n0 Q) {x x' : Value} (hd : Dc bytes pc .dup_x1 1 pc') (hc : x.category = 1) (hc' : x'.category = 1) (k : Wk E h kc kn pc' ls (x :: x' :: x :: st)) : Wk E h kc kn pc ls (x :: x' :: st) := by
  obtain ⟨hd, rfl⟩ := hd
  exact K.lift (fun p e s m args below meth c F T locs X eT t q => XS.dupX1 X.here F.1 rfl (hb F.2.1 hd) rfl hc hc' q) k
theorem Kx.dup2 (K : Kx E y bytes ml rt l Z R n0 Q) {x x' : Value} (hd : Dc bytes pc .dup2 1 pc') (hc : x.category = 1) (hc' : x'.category = 1) (k : Wk E h kc kn pc' ls (x :: x' :: x :: x' :: st)) : Wk E h kc kn pc ls (x :: x' :: st) := by
  obtain ⟨hd, rfl⟩ := hd
  exact K.lift (fun p e s m args below meth c F T locs X eT t q => Jvm.Free.XT.dup2 X.here F.1 rfl (hb F.2.1 hd) rfl hc hc' q) k
theorem Kx.ldcI (K : Kx E y bytes ml rt l Z R n0 Q) {i : Nat} {v : Int32} (hd : Dc bytes pc (.ldc i) 2 pc') (w : (Jvm.Cond.constant y.cls i v).before a0 Z = true) (k : Wk E h kc kn pc' ls (.int v :: st)) : Wk E h kc kn pc ls st := by
  obtain ⟨hd, rfl⟩ := hd
  exact K.lift (fun p e s m args below meth c F T locs X eT t q => X.ldcI F.1 F.2.2.2.2.2.2.1 (mvT F.2.2.2.2.2.1 w) rfl (hb F.2.1 hd) q) k
theorem Kx.ldc2J (K : Kx E y bytes ml rt l Z R n0 Q) {i : Nat} {v : Int64} (hd : Dc bytes pc (.ldc2_w i) 3 pc') (w : (Jvm.Cond.constantLong y.cls i v).before a0 Z = true) (k : Wk E h kc kn pc' ls (.long v :: st)) : Wk E h kc kn pc ls st := by
  obtain ⟨hd, rfl⟩ := hd
  exact K.lift (fun p e s m args below meth c F T locs X eT t q => X.ldc2J F.1 F.2.2.2.2.2.2.1 (mvT F.2.2.2.2.2.1 w) rfl (hb F.2.1 hd) q) k
theorem Kx.goto (K : Kx E y bytes ml rt l Z R n0 Q) {o : Int} (hd : Db bytes pc (.goto o) o pc1 pc2) (k : Wk E h kc kn pc2 ls st) : Wk E h kc kn pc ls st := by
  obtain ⟨hd, -, h0, h1⟩ := hd
  exact K.lift (fun p e s m args below meth c F T locs X eT t q => XS.goto X.here F.1 rfl rfl (hb F.2.1 hd) h0 h1 q) k
theorem Kx.ic_eq (K : Kx E y bytes ml rt l Z R n0 Q) {o : Int} {x y' : Int32} (hd : Db bytes pc (.if_icmp .eq o) o pc1 pc2) (k1 : x = y' → Wk E h kc kn pc2 ls st) (k2 : ¬ x = y' → Wk E h kc kn pc1 ls st) : Wk E h kc kn pc ls (.int y' :: .int x :: st) := by
  obtain ⟨hd, rfl, h0, h1⟩ := hd
  by_cases u : x = y'
  · exact K.lift (fun p e s m args below meth c F T locs X eT t q => XS.icmpYes X.here F.1 rfl rfl (hb F.2.1 hd) rfl (teq u).1 h0 h1 q) (k1 u)
  · exact K.lift (fun p e s m args below meth c F T locs X eT t q => XS.icmpNo X.here F.1 rfl (hb F.2.1 hd) rfl (feq u).1 q) (k2 u)
theorem Kx.if_eq (K : Kx E y bytes ml rt l Z R n0 Q) {o : Int} {x : Int32} (hd : Db bytes pc (.ifCond .eq o) o pc1 pc2) (k1 : x = 0 → Wk E h kc kn pc2 ls st) (k2 : ¬ x = 0 → Wk E h kc kn pc1 ls st) : Wk E h kc kn pc ls (.int x :: st) := by
  obtain ⟨hd, rfl, h0, h1⟩ := hd
  by_cases u : x = 0
  · exact K.lift (fun p e s m args below meth c F T locs X eT t q => XS.ifYes X.here F.1 rfl rfl (hb F.2.1 hd) rfl ((if0 _ _).trans (teq u).1) h0 h1 q) (k1 u)
  · exact K.lift (fun p e s m args below meth c F T locs X eT t q => XS.ifNo X.here F.1 rfl (hb F.2.1 hd) rfl ((if0 _ _).trans (feq u).1) q) (k2 u)
theorem Kx.ic_ne (K : Kx E y bytes ml rt l Z R n0 Q) {o : Int} {x y' : Int32} (hd : Db bytes pc (.if_icmp .ne o) o pc1 pc2) (k1 : x = y' → Wk E h kc kn pc1 ls st) (k2 : ¬ x = y' → Wk E h kc kn pc2 ls st) : Wk E h kc kn pc ls (.int y' :: .int x :: st) := by
  obtain ⟨hd, rfl, h0, h1⟩ := hd
  by_cases u : x = y'
  · exact K.lift (fun p e s m args below meth c F T locs X eT t q => XS.icmpNo X.here F.1 rfl (hb F.2.1 hd) rfl (teq u).2 q) (k1 u)
  · exact K.lift (fun p e s m args below meth c F T locs X eT t q => XS.icmpYes X.here F.1 rfl rfl (hb F.2.1 hd) rfl (feq u).2 h0 h1 q) (k2 u)
theorem Kx.if_ne (K : Kx E y bytes ml rt l Z R n0 Q) {o : Int} {x : Int32} (hd : Db bytes pc (.ifCond .ne o) o pc1 pc2) (k1 : x = 0 → Wk E h kc kn pc1 ls st) (k2 : ¬ x = 0 → Wk E h kc kn pc2 ls st) : Wk E h kc kn pc ls (.int x :: st) := by
  obtain ⟨hd, rfl, h0, h1⟩ := hd
  by_cases u : x = 0
  · exact K.lift (fun p e s m args below meth c F T locs X eT t q => XS.ifNo X.here F.1 rfl (hb F.2.1 hd) rfl ((if0 _ _).trans (teq u).2) q) (k1 u)
  · exact K.lift (fun p e s m args below meth c F T locs X eT t q => XS.ifYes X.here F.1 rfl rfl (hb F.2.1 hd) rfl ((if0 _ _).trans (feq u).2) h0 h1 q) (k2 u)
theorem Kx.ic_lt (K : Kx E y bytes ml rt l Z R n0 Q) {o : Int} {x y' : Int32} (hd : Db bytes pc (.if_icmp .lt o) o pc1 pc2) (k1 : x < y' → Wk E h kc kn pc2 ls st) (k2 : ¬ x < y' → Wk E h kc kn pc1 ls st) : Wk E h kc kn pc ls (.int y' :: .int x :: st) := by
  obtain ⟨hd, rfl, h0, h1⟩ := hd
  by_cases u : x < y'
  · exact K.lift (fun p e s m args below meth c F T locs X eT t q => XS.icmpYes X.here F.1 rfl rfl (hb F.2.1 hd) rfl (tlt u).1 h0 h1 q) (k1 u)
  · exact K.lift (fun p e s m args below meth c F T locs X eT t q => XS.icmpNo X.here F.1 rfl (hb F.2.1 hd) rfl (flt u).1 q) (k2 u)
theorem Kx.if_lt (K : Kx E y bytes ml rt l Z R n0 Q) {o : Int} {x : Int32} (hd : Db bytes pc (.ifCond .lt o) o pc1 pc2) (k1 : x < 0 → Wk E h kc kn pc2 ls st) (k2 : ¬ x < 0 → Wk E h kc kn pc1 ls st) : Wk E h kc kn pc ls (.int x :: st) := by
  obtain ⟨hd, rfl, h0, h1⟩ := hd
  by_cases u : x < 0
  · exact K.lift (fun p e s m args below meth c F T locs X eT t q => XS.ifYes X.here F.1 rfl rfl (hb F.2.1 hd) rfl ((if0 _ _).trans (tlt u).1) h0 h1 q) (k1 u)
  · exact K.lift (fun p e s m args below meth c F T locs X eT t q => XS.ifNo X.here F.1 rfl (hb F.2.1 hd) rfl ((if0 _ _).trans (flt u).1) q) (k2 u)
theorem Kx.ic_ge (K : Kx E y bytes ml rt l Z R n0 Q) {o : Int} {x y' : Int32} (hd : Db bytes pc (.if_icmp .ge o) o pc1 pc2) (k1 : x < y' → Wk E h kc kn pc1 ls st) (k2 : ¬ x < y' → Wk E h kc kn pc2 ls st) : Wk E h kc kn pc ls (.int y' :: .int x :: st) := by
  obtain ⟨hd, rfl, h0, h1⟩ := hd
  by_cases u : x < y'
  · exact K.lift (fun p e s m args below meth c F T locs X eT t q => XS.icmpNo X.here F.1 rfl (hb F.2.1 hd) rfl (tlt u).2.1 q) (k1 u)
  · exact K.lift (fun p e s m args below meth c F T locs X eT t q => XS.icmpYes X.here F.1 rfl rfl (hb F.2.1 hd) rfl (flt u).2.1 h0 h1 q) (k2 u)
theorem Kx.if_ge (K : Kx E y bytes ml rt l Z R n0 Q) {o : Int} {x : Int32} (hd : Db bytes pc (.ifCond .ge o) o pc1 pc2) (k1 : x < 0 → Wk E h kc kn pc1 ls st) (k2 : ¬ x < 0 → Wk E h kc kn pc2 ls st) : Wk E h kc kn pc ls (.int x :: st) := by
  obtain ⟨hd, rfl, h0, h1⟩ := hd
  by_cases u : x < 0
  · exact K.lift (fun p e s m args below meth c F T locs X eT t q => XS.ifNo X.here F.1 rfl (hb F.2.1 hd) rfl ((if0 _ _).trans (tlt u).2.1) q) (k1 u)
  · exact K.lift (fun p e s m args below meth c F T locs X eT t q => XS.ifYes X.here F.1 rfl rfl (hb F.2.1 hd) rfl ((if0 _ _).trans (flt u).2.1) h0 h1 q) (k2 u)
theorem Kx.ic_gt (K : Kx E y bytes ml rt l Z R n0 Q) {o : Int} {x y' : Int32} (hd : Db bytes pc (.if_icmp .gt o) o pc1 pc2) (k1 : y' < x → Wk E h kc kn pc2 ls st) (k2 : ¬ y' < x → Wk E h kc kn pc1 ls st) : Wk E h kc kn pc ls (.int y' :: .int x :: st) := by
  obtain ⟨hd, rfl, h0, h1⟩ := hd
  by_cases u : y' < x
  · exact K.lift (fun p e s m args below meth c F T locs X eT t q => XS.icmpYes X.here F.1 rfl rfl (hb F.2.1 hd) rfl (tlt u).2.2.1 h0 h1 q) (k1 u)
  · exact K.lift (fun p e s m args below meth c F T locs X eT t q => XS.icmpNo X.here F.1 rfl (hb F.2.1 hd) rfl (flt u).2.2.1 q) (k2 u)
theorem Kx.if_gt (K : Kx E y bytes ml rt l Z R n0 Q) {o : Int} {x : Int32} (hd : Db bytes pc (.ifCond .gt o) o pc1 pc2) (k1 : 0 < x → Wk E h kc kn pc2 ls st) (k2 : ¬ 0 < x → Wk E h kc kn pc1 ls st) : Wk E h kc kn pc ls (.int x :: st) := by
  obtain ⟨hd, rfl, h0, h1⟩ := hd
  by_cases u : 0 < x
  · exact K.lift (fun p e s m args below meth c F T locs X eT t q => XS.ifYes X.here F.1 rfl rfl (hb F.2.1 hd) rfl ((if0 _ _).trans (tlt u).2.2.1) h0 h1 q) (k1 u)
  · exact K.lift (fun p e s m args below meth c F T locs X eT t q => XS.ifNo X.here F.1 rfl (hb F.2.1 hd) rfl ((if0 _ _).trans (flt u).2.2.1) q) (k2 u)
theorem Kx.ic_le (K : Kx E y bytes ml rt l Z R n0 Q) {o : Int} {x y' : Int32} (hd : Db bytes pc (.if_icmp .le o) o pc1 pc2) (k1 : y' < x → Wk E h kc kn pc1 ls st) (k2 : ¬ y' < x → Wk E h kc kn pc2 ls st) : Wk E h kc kn pc ls (.int y' :: .int x :: st) := by
  obtain ⟨hd, rfl, h0, h1⟩ := hd
  by_cases u : y' < x
  · exact K.lift (fun p e s m args below meth c F T locs X eT t q => XS.icmpNo X.here F.1 rfl (hb F.2.1 hd) rfl (tlt u).2.2.2 q) (k1 u)
  · exact K.lift (fun p e s m args below meth c F T locs X eT t q => XS.icmpYes X.here F.1 rfl rfl (hb F.2.1 hd) rfl (flt u).2.2.2 h0 h1 q) (k2 u)
theorem Kx.if_le (K : Kx E y bytes ml rt l Z R n0 Q) {o : Int} {x : Int32} (hd : Db bytes pc (.ifCond .le o) o pc1 pc2) (k1 : 0 < x → Wk E h kc kn pc1 ls st) (k2 : ¬ 0 < x → Wk E h kc kn pc2 ls st) : Wk E h kc kn pc ls (.int x :: st) := by
  obtain ⟨hd, rfl, h0, h1⟩ := hd
  by_cases u : 0 < x
  · exact K.lift (fun p e s m args below meth c F T locs X eT t q => XS.ifNo X.here F.1 rfl (hb F.2.1 hd) rfl ((if0 _ _).trans (tlt u).2.2.2) q) (k1 u)
  · exact K.lift (fun p e s m args below meth c F T locs X eT t q => XS.ifYes X.here F.1 rfl rfl (hb F.2.1 hd) rfl ((if0 _ _).trans (flt u).2.2.2) h0 h1 q) (k2 u)
theorem Kx.lcmp (K : Kx E y bytes ml rt l Z R n0 Q) {x y' : Int64} (hd : Dc bytes pc .lcmp 1 pc') (k : Wk E h kc kn pc' ls (.int (lcmpW x y') :: st)) : Wk E h kc kn pc ls (.long y' :: .long x :: st) := by
  obtain ⟨hd, rfl⟩ := hd
  exact K.lift (fun p e s m args below meth c F T locs X eT t q => XS.lcmp X.here F.1 rfl (hb F.2.1 hd) rfl q) k
theorem Kx.lc_eq (K : Kx E y bytes ml rt l Z R n0 Q) {o : Int} {x y' : Int64} {pcm : Nat} (hd0 : Dc bytes pc .lcmp 1 pcm) (hd : Db bytes pcm (.ifCond .eq o) o pc1 pc2) (k1 : x = y' → Wk E h kc kn pc2 ls st) (k2 : ¬ x = y' → Wk E h kc kn pc1 ls st) : Wk E h kc kn pc ls (.long y' :: .long x :: st) :=
  K.lcmp hd0 (K.if_eq hd (fun u => k1 ((lw_eq x y').mp u)) (fun u => k2 (fun v => u ((lw_eq x y').mpr v))))
theorem Kx.lc_ne (K : Kx E y bytes ml rt l Z R n0 Q) {o : Int} {x y' : Int64} {pcm : Nat} (hd0 : Dc bytes pc .lcmp 1 pcm) (hd : Db bytes pcm (.ifCond .ne o) o pc1 pc2) (k1 : x = y' → Wk E h kc kn pc1 ls st) (k2 : ¬ x = y' → Wk E h kc kn pc2 ls st) : Wk E h kc kn pc ls (.long y' :: .long x :: st) :=
  K.lcmp hd0 (K.if_ne hd (fun u => k1 ((lw_eq x y').mp u)) (fun u => k2 (fun v => u ((lw_eq x y').mpr v))))
theorem Kx.lc_lt (K : Kx E y bytes ml rt l Z R n0 Q) {o : Int} {x y' : Int64} {pcm : Nat} (hd0 : Dc bytes pc .lcmp 1 pcm) (hd : Db bytes pcm (.ifCond .lt o) o pc1 pc2) (k1 : x < y' → Wk E h kc kn pc2 ls st) (k2 : ¬ x < y' → Wk E h kc kn pc1 ls st) : Wk E h kc kn pc ls (.long y' :: .long x :: st) :=
  K.lcmp hd0 (K.if_lt hd (fun u => k1 ((lw_lt x y').mp u)) (fun u => k2 (fun v => u ((lw_lt x y').mpr v))))
theorem Kx.lc_ge (K : Kx E y bytes ml rt l Z R n0 Q) {o : Int} {x y' : Int64} {pcm : Nat} (hd0 : Dc bytes pc .lcmp 1 pcm) (hd : Db bytes pcm (.ifCond .ge o) o pc1 pc2) (k1 : x < y' → Wk E h kc kn pc1 ls st) (k2 : ¬ x < y' → Wk E h kc kn pc2 ls st) : Wk E h kc kn pc ls (.long y' :: .long x :: st) :=
  K.lcmp hd0 (K.if_ge hd (fun u => k1 ((lw_lt x y').mp u)) (fun u => k2 (fun v => u ((lw_lt x y').mpr v))))
theorem Kx.lc_gt (K : Kx E y bytes ml rt l Z R n0 Q) {o : Int} {x y' : Int64} {pcm : Nat} (hd0 : Dc bytes pc .lcmp 1 pcm) (hd : Db bytes pcm (.ifCond .gt o) o pc1 pc2) (k1 : y' < x → Wk E h kc kn pc2 ls st) (k2 : ¬ y' < x → Wk E h kc kn pc1 ls st) : Wk E h kc kn pc ls (.long y' :: .long x :: st) :=
  K.lcmp hd0 (K.if_gt hd (fun u => k1 ((lw_gt x y').mp u)) (fun u => k2 (fun v => u ((lw_gt x y').mpr v))))
theorem Kx.lc_le (K : Kx E y bytes ml rt l Z R n0 Q) {o : Int} {x y' : Int64} {pcm : Nat} (hd0 : Dc bytes pc .lcmp 1 pcm) (hd : Db bytes pcm (.ifCond .le o) o pc1 pc2) (k1 : y' < x → Wk E h kc kn pc1 ls st) (k2 : ¬ y' < x → Wk E h kc kn pc2 ls st) : Wk E h kc kn pc ls (.long y' :: .long x :: st) :=
  K.lcmp hd0 (K.if_le hd (fun u => k1 ((lw_gt x y').mp u)) (fun u => k2 (fun v => u ((lw_gt x y').mpr v))))
theorem Kx.ifnull_null (K : Kx E y bytes ml rt l Z R n0 Q) {o : Int} (hd : Db bytes pc (.ifnull o) o pc1 pc2) (k : Wk E h kc kn pc2 ls st) : Wk E h kc kn pc ls (.null :: st) := by
  obtain ⟨hd, -, h0, h1⟩ := hd
  exact K.lift (fun p e s m args below meth c F T locs X eT t q => XS.ifnullYes X.here F.1 rfl rfl (hb F.2.1 hd) rfl h0 h1 q) k
theorem Kx.ifnull_ref (K : Kx E y bytes ml rt l Z R n0 Q) {o : Int} (hd : Db bytes pc (.ifnull o) o pc1 pc2) (k : Wk E h kc kn pc1 ls st) : Wk E h kc kn pc ls (.ref a :: st) := by
  obtain ⟨hd, rfl, h0, h1⟩ := hd
  exact K.lift (fun p e s m args below meth c F T locs X eT t q => XS.ifnullNo X.here F.1 rfl (hb F.2.1 hd) rfl q) k
theorem Kx.ifnonnull_ref (K : Kx E y bytes ml rt l Z R n0 Q) {o : Int} (hd : Db bytes pc (.ifnonnull o) o pc1 pc2) (k : Wk E h kc kn pc2 ls st) : Wk E h kc kn pc ls (.ref a :: st) := by
  obtain ⟨hd, -, h0, h1⟩ := hd
  exact K.lift (fun p e s m args below meth c F T locs X eT t q => XS.ifnonnullYes X.here F.1 rfl rfl (hb F.2.1 hd) rfl h0 h1 q) k
theorem Kx.ifnonnull_null (K : Kx E y bytes ml rt l Z R n0 Q) {o : Int} (hd : Db bytes pc (.ifnonnull o) o pc1 pc2) (k : Wk E h kc kn pc1 ls st) : Wk E h kc kn pc ls (.null :: st) := by
  obtain ⟨hd, rfl, h0, h1⟩ := hd
  exact K.lift (fun p e s m args below meth c F T locs X eT t q => XS.ifnonnullNo X.here F.1 rfl (hb F.2.1 hd) rfl q) k
theorem Kx.ldcF (K : Kx E y bytes ml rt l Z R n0 Q) {i : Nat} {v : UInt32} (hd : Dc bytes pc (.ldc i) 2 pc') (w : (Jvm.Cond.constantFloat y.cls i v).before a0 Z = true) (k : Wk E h kc kn pc' ls (.float v :: st)) : Wk E h kc kn pc ls st := by
  obtain ⟨hd, rfl⟩ := hd
  exact K.lift (fun p e s m args below meth c F T locs X eT t q => X.ldcFloatC F.1 F.2.2.2.2.2.2.1 (mvT F.2.2.2.2.2.1 w) (g := mkF m pc ls st) rfl (hb F.2.1 hd) t q) k
/-- an array: its kind, its length, what each place holds -/
def Ia (Z : State) (h : Heap) (a : Addr) (ty : FieldType) (N : Int32) (f : Int32 → Value) : Prop := ∃ c : Cell, Arr Z h a c ty ∧ c.slots.size = N.toNatClampNeg ∧ ¬ N < 0 ∧ ∀ j : Int32, ¬ j < 0 → j < N → c.slots[j.toNatClampNeg]? = some (f j)
theorem Ia.lt {ty : FieldType} {N : Int32} {f : Int32 → Value} (F : Ia Z h a ty N f) : a < h.size := by obtain ⟨c, A, -⟩ := F; exact A.lt
theorem Ia.nn {ty : FieldType} {N : Int32} {f : Int32 → Value} (F : Ia Z h a ty N f) : ¬ N < 0 := by obtain ⟨c, -, -, q, -⟩ := F; exact q
theorem Ia.ext {ty : FieldType} {N : Int32} {f : Int32 → Value} (F : Ia Z h a ty N f) (X : Ext h h') : Ia Z h' a ty N f := by obtain ⟨c, A, r⟩ := F; exact ⟨c, A.ext X, r⟩
theorem Ia.other {ty : FieldType} {N : Int32} {f : Int32 → Value} {sl : Nat} {v : Value} (F : Ia Z h b ty N f) (W : Wr h h' a sl v) (q : b ≠ a) : Ia Z h' b ty N f := by obtain ⟨c, A, r⟩ := F; exact ⟨c, A.other W q, r⟩
theorem Ia.keep {ty : FieldType} {N : Int32} {f : Int32 → Value} {ws : List Addr} (F : Ia Z h a ty N f) (K : Keep h h' ws) (q : a ∉ ws) : Ia Z h' a ty N f := by obtain ⟨c, A, r⟩ := F; exact ⟨c, ⟨K.2.1 a c A.1 q, A.2⟩, r⟩
theorem Ia.congr {ty : FieldType} {N : Int32} {f g : Int32 → Value} (F : Ia Z h a ty N f) (q : ∀ j : Int32, ¬ j < 0 → j < N → f j = g j) : Ia Z h a ty N g := by
  obtain ⟨c, A, r1, r2, r3⟩ := F
  exact ⟨c, A, r1, r2, fun j h1 h2 => by rw [r3 j h1 h2, q j h1 h2]⟩
theorem Ia.set {ty : FieldType} {N j : Int32} {f : Int32 → Value} {v : Value} (F : Ia Z h a ty N f) (W : Wr h h' a j.toNatClampNeg v) (hj : ¬ j < 0) : Ia Z h' a ty N (fun k => if k = j then v else f k) := by
  obtain ⟨c, A, S, M, G⟩ := F
  refine ⟨_, A.same W, by rw [sz_set]; exact S, M, fun k h1 h2 => ?_⟩
  show _ = some (if k = j then v else f k)
  by_cases u : k = j
  · rw [if_pos u]; exact get_hit (inb_of S (u ▸ ⟨h1, h2⟩)) u
  · rw [if_neg u, get_miss hj h1 u]; exact G k h1 h2
theorem Ia.new {ty : FieldType} {N : Int32} {k : ClassId} (A : Arr Z h a (newA k ty N) ty) (q : ¬ N < 0) : Ia Z h a ty N (fun _ => defaultValue ty) :=
  ⟨_, A, sz_new _ _ _, q, fun j h1 h2 => get_new (by have := inb_of (sz_new k ty N) ⟨h1, h2⟩; rw [sz_new] at this; exact this)⟩
theorem Kx.getF (K : Kx E y bytes ml rt l Z R n0 Q) {i : Nat} {O n d : String} {v : Value} (hd : Dc bytes pc (.getfield i) 3 pc') (w : (Jvm.Cond.fieldLink y.cls i O n d).before a0 Z = true) (F : Fld Z h a O n d v) (k : Wk E h kc kn pc' ls (v :: st)) : Wk E h kc kn pc ls (.ref a :: st) := by
  obtain ⟨hd, rfl⟩ := hd
  refine K.move (fun p e s m args below meth c G T locs X eT N => ?_)
  obtain ⟨g1, g2, g3, g4, g5, hZ, hown, g8, g9⟩ := G
  have hn : n0 ≤ h.size := by rw [← eT]; exact Nat.le_trans g9 X.same.2.1
  obtain ⟨T', X', e', q'⟩ := RoadKit.getF X g1 hZ hown (host := "") (Or.inl w) Via.refl eT F (g := mkF m pc ls (.ref a :: st)) rfl rfl (hb g2 hd)
  exact ⟨T', _, _, _, _, _, _, _, X', e', N, (Nat.le_refl _), k, fun t q => q' t q⟩
theorem Kx.putF (K : Kx E y bytes ml rt l Z R n0 Q) {i kk : Nat} {O n d C : String} {ty : FieldType} {v old : Value} (hd : Dc bytes pc (.putfield i) 3 pc') (w : (Jvm.Cond.fieldLink y.cls i O n d).before a0 Z = true) (F : Fld Z h a O n d old) (X0 : Exa Z h a C)
    (L : (Jvm.Cond.lays C O n d).before a0 Z = true ∨ ((Jvm.Cond.laysFinal C O n d).before a0 Z = true ∧ y.cls = O ∧ y.name = "<init>")) (wi : (Jvm.Cond.instantiable C kk).before a0 Z = true) (ht : parseFieldDescriptor d = some ty) (hna : narrow ty v = v) (hf : fits ty v = true) (ge : n0 ≤ a)
    (k : ∀ h', Wr h h' a (RoadKit.slotOf Z O n d) v → Wk E h' kc kn pc' ls st) : Wk E h kc kn pc ls (v :: .ref a :: st) := by
  obtain ⟨hd, rfl⟩ := hd
  refine K.move (fun p e s m args below meth c G T locs X eT N => ?_)
  obtain ⟨g1, g2, g3, g4, g5, hZ, hown, g8, g9⟩ := G
  have hn : n0 ≤ h.size := by rw [← eT]; exact Nat.le_trans g9 X.same.2.1
  obtain ⟨T', h', X', e', W, q'⟩ := RoadKit.putF X g1 hZ hown (host := "") (Or.inl w) Via.refl eT F X0 (L.imp id fun u => ⟨u.1, u.2.1, g8.trans u.2.2⟩) wi ht hna hf (g := mkF m pc ls (v :: .ref a :: st)) rfl rfl (hb g2 hd)
  exact ⟨T', _, _, _, _, _, _, _, X', e', (Fr.snoc X' N ge), (Nat.le_of_eq W.size.symm), k h' W, fun t q => q' t q⟩
theorem Kx.newO (K : Kx E y bytes ml rt l Z R n0 Q) {i sz : Nat} {C : String} (kc' kn' : Nat) (hd : Dc bytes pc (.new i) 3 pc') (w : (Jvm.Cond.classLink y.cls i C).before a0 Z = true) (wi : (Jvm.Cond.instantiable C sz).before a0 Z = true) (wz : (Jvm.Cond.initialized C).before a0 Z = true)
    (hk : kc + 1 = kc') (hk2 : kn + sz = kn') (hc : kc' ≤ R.cells) (hl : kn' ≤ R.slots)
    (k : ∀ h' a, a = h.size → n0 ≤ a → Ext h h' → Exa Z h' a C → (∀ {O nm d : String} {ty : FieldType}, Laid Z a0 C O nm d → parseFieldDescriptor d = some ty → Fld Z h' a O nm d (defaultValue ty)) → Wk E h' kc' kn' pc' ls (.ref a :: st)) : Wk E h kc kn pc ls st := by
  obtain ⟨hd, rfl⟩ := hd
  refine K.move (fun p e s m args below meth c G T locs X eT N => ?_)
  obtain ⟨g1, g2, g3, g4, g5, hZ, hown, g8, g9⟩ := G
  have hn : n0 ≤ h.size := by rw [← eT]; exact Nat.le_trans g9 X.same.2.1
  subst hk hk2
  obtain ⟨T', h', X', e', E', A', D', -, q'⟩ := RoadKit.newO X g1 hZ hown w wi wz eT (g := mkF m pc ls st) rfl (hb g2 hd) hc hl
  exact ⟨T', _, _, _, _, _, _, _, X', e', N, E'.1, k h' h.size rfl hn E' A' D', fun t q => q' t q⟩
theorem Kx.newP (K : Kx E y bytes ml rt l Z R n0 Q) {aty : ArrayType} {N : Int32} {ty : FieldType} {dv : Value} (cap kc' kn' : Nat) (hd : Dc bytes pc (.newarray aty) 2 pc') (w : (Jvm.Cond.arrayClass ty).before a0 Z = true) (hty : newarray.typeOf aty = ty) (hdv : defaultValue ty = dv) (hN : ¬ N < 0) (hcap : N.toNatClampNeg ≤ cap) (h8 : cap * 8 ≤ 536870912)
    (hk : kc + 1 = kc') (hk2 : kn + cap = kn') (hc : kc' ≤ R.cells) (hl : kn' ≤ R.slots)
    (k : ∀ h' a, a = h.size → n0 ≤ a → Ext h h' → Ia Z h' a ty N (fun _ => dv) → Wk E h' kc' kn' pc' ls (.ref a :: st)) : Wk E h kc kn pc ls (.int N :: st) := by
  obtain ⟨hd, rfl⟩ := hd
  refine K.move (fun p e s m args below meth c G T locs X eT N' => ?_)
  obtain ⟨g1, g2, g3, g4, g5, hZ, hown, g8, g9⟩ := G
  have hn : n0 ≤ h.size := by rw [← eT]; exact Nat.le_trans g9 X.same.2.1
  subst hk hk2 hty hdv
  obtain ⟨T', h', cA, X', e', E', A', q'⟩ := RoadKit.newP X g1 hZ w eT (g := mkF m pc ls (.int N :: st)) rfl (hb g2 hd) rfl hN hcap h8 hc hl
  exact ⟨T', _, _, _, _, _, _, _, X', e', N', E'.1, k h' h.size rfl hn E' (Ia.new A' hN), fun t q => q' t q⟩
theorem Kx.newR (K : Kx E y bytes ml rt l Z R n0 Q) {i : Nat} {N : Int32} {C : String} (cap kc' kn' : Nat) (hd : Dc bytes pc (.anewarray i) 3 pc') (w1 : (Jvm.Cond.classLink y.cls i C).before a0 Z = true) (w2 : (Jvm.Cond.arrayOver (.object C)).before a0 Z = true) (hN : ¬ N < 0) (hcap : N.toNatClampNeg ≤ cap) (h8 : cap * 8 ≤ 536870912)
    (hk : kc + 1 = kc') (hk2 : kn + cap = kn') (hc : kc' ≤ R.cells) (hl : kn' ≤ R.slots)
    (k : ∀ h' a, a = h.size → n0 ≤ a → Ext h h' → Ia Z h' a (.object C) N (fun _ => .null) → Wk E h' kc' kn' pc' ls (.ref a :: st)) : Wk E h kc kn pc ls (.int N :: st) := by
  obtain ⟨hd, rfl⟩ := hd
  refine K.move (fun p e s m args below meth c G T locs X eT N' => ?_)
  obtain ⟨g1, g2, g3, g4, g5, hZ, hown, g8, g9⟩ := G
  have hn : n0 ≤ h.size := by rw [← eT]; exact Nat.le_trans g9 X.same.2.1
  subst hk hk2
  obtain ⟨T', h', cA, X', e', E', A', O', q'⟩ := RoadKit.newR X g1 hZ hown w1 w2 eT (g := mkF m pc ls (.int N :: st)) rfl (hb g2 hd) rfl hN hcap h8 hc hl
  exact ⟨T', _, _, _, _, _, _, _, X', e', N', E'.1, k h' h.size rfl hn E' (Ia.new A' hN), fun t q => q' t q⟩
theorem Kx.newRA (K : Kx E y bytes ml rt l Z R n0 Q) {i : Nat} {N : Int32} {C : String} {ty : FieldType} (cap kc' kn' : Nat) (hd : Dc bytes pc (.anewarray i) 3 pc') (hC : (FieldType.array ty).toString = C) (w1 : (Jvm.Cond.classLink y.cls i C).before a0 Z = true) (w2 : (Jvm.Cond.arrayOver (.array ty)).before a0 Z = true) (hN : ¬ N < 0) (hcap : N.toNatClampNeg ≤ cap) (h8 : cap * 8 ≤ 536870912)
    (hk : kc + 1 = kc') (hk2 : kn + cap = kn') (hc : kc' ≤ R.cells) (hl : kn' ≤ R.slots)
    (k : ∀ h' a, a = h.size → n0 ≤ a → Ext h h' → Ia Z h' a (.array ty) N (fun _ => .null) → Wk E h' kc' kn' pc' ls (.ref a :: st)) : Wk E h kc kn pc ls (.int N :: st) := by
  obtain ⟨hd, rfl⟩ := hd
  refine K.move (fun p e s m args below meth c G T locs X eT N' => ?_)
  obtain ⟨g1, g2, g3, g4, g5, hZ, hown, g8, g9⟩ := G
  have hn : n0 ≤ h.size := by rw [← eT]; exact Nat.le_trans g9 X.same.2.1
  subst hk hk2
  obtain ⟨T', h', cA, X', e', E', A', -, O', q'⟩ := RoadKit.newRA X g1 hZ hown hC w1 w2 eT (g := mkF m pc ls (.int N :: st)) rfl (hb g2 hd) rfl hN hcap h8 hc hl rfl
  exact ⟨T', _, _, _, _, _, _, _, X', e', N', E'.1, k h' h.size rfl hn E' (Ia.new A' hN), fun t q => q' t q⟩
theorem Kx.arraylength (K : Kx E y bytes ml rt l Z R n0 Q) {ty : FieldType} {N : Int32} {f : Int32 → Value} (hd : Dc bytes pc .arraylength 1 pc') (A : Ia Z h a ty N f) (k : Wk E h kc kn pc' ls (.int N :: st)) : Wk E h kc kn pc ls (.ref a :: st) := by
  obtain ⟨hd, rfl⟩ := hd
  obtain ⟨cl, A, S, M, G⟩ := A
  refine K.lift (fun p e s m args below meth c F T locs X eT t q => ?_) k
  exact X.arraylength F.1 (by rw [eT]; exact A.1) (State.isArrayOf_alike F.2.2.2.2.2.1.alike A.2.1) (g := mkF m pc ls (.ref a :: st)) rfl rfl (hb F.2.1 hd) t (by rw [len_of S M]; exact q)
theorem Kx.iaload (K : Kx E y bytes ml rt l Z R n0 Q) {N j : Int32} {f : Int32 → Value} {v : Value} (hd : Dc bytes pc .iaload 1 pc') (A : Ia Z h a .int N f) (h1 : ¬ j < 0) (h2 : j < N) (hv : f j = v) (k : Wk E h kc kn pc' ls (v :: st)) : Wk E h kc kn pc ls (.int j :: .ref a :: st) := by
  obtain ⟨hd, rfl⟩ := hd
  obtain ⟨cl, A, S, M, G⟩ := A
  refine K.lift (fun p e s m args below meth c F T locs X eT t q => ?_) k
  exact X.iaload F.1 (by rw [eT]; exact A.1) (State.isArrayOf_alike F.2.2.2.2.2.1.alike A.2.1) A.2.2 (inb_of S ⟨h1, h2⟩) (hv ▸ G j h1 h2) (g := mkF m pc ls (.int j :: .ref a :: st)) rfl rfl (hb F.2.1 hd) t q
theorem Kx.baload (K : Kx E y bytes ml rt l Z R n0 Q) {N j : Int32} {f : Int32 → Value} {v : Value} (hd : Dc bytes pc .baload 1 pc') (A : Ia Z h a .byte N f) (h1 : ¬ j < 0) (h2 : j < N) (hv : f j = v) (k : Wk E h kc kn pc' ls (v :: st)) : Wk E h kc kn pc ls (.int j :: .ref a :: st) := by
  obtain ⟨hd, rfl⟩ := hd
  obtain ⟨cl, A, S, M, G⟩ := A
  refine K.lift (fun p e s m args below meth c F T locs X eT t q => ?_) k
  exact X.baloadBytes F.1 (by rw [eT]; exact A.1) (State.isArrayOf_alike F.2.2.2.2.2.1.alike A.2.1) A.2.2 (inb_of S ⟨h1, h2⟩) (hv ▸ G j h1 h2) (g := mkF m pc ls (.int j :: .ref a :: st)) rfl rfl (hb F.2.1 hd) t q
theorem Kx.caload (K : Kx E y bytes ml rt l Z R n0 Q) {N j : Int32} {f : Int32 → Value} {v : Value} (hd : Dc bytes pc .caload 1 pc') (A : Ia Z h a .char N f) (h1 : ¬ j < 0) (h2 : j < N) (hv : f j = v) (k : Wk E h kc kn pc' ls (v :: st)) : Wk E h kc kn pc ls (.int j :: .ref a :: st) := by
  obtain ⟨hd, rfl⟩ := hd
  obtain ⟨cl, A, S, M, G⟩ := A
  refine K.lift (fun p e s m args below meth c F T locs X eT t q => ?_) k
  exact X.caload F.1 (by rw [eT]; exact A.1) (State.isArrayOf_alike F.2.2.2.2.2.1.alike A.2.1) A.2.2 (inb_of S ⟨h1, h2⟩) (hv ▸ G j h1 h2) (g := mkF m pc ls (.int j :: .ref a :: st)) rfl rfl (hb F.2.1 hd) t q
theorem Kx.aaload (K : Kx E y bytes ml rt l Z R n0 Q) {N j : Int32} {f : Int32 → Value} {ty : FieldType} {v : Value} (hd : Dc bytes pc .aaload 1 pc') (A : Ia Z h a ty N f) (hty : ty.isReference = true) (h1 : ¬ j < 0) (h2 : j < N) (hv : f j = v) (k : Wk E h kc kn pc' ls (v :: st)) : Wk E h kc kn pc ls (.int j :: .ref a :: st) := by
  obtain ⟨hd, rfl⟩ := hd
  obtain ⟨cl, A, S, M, G⟩ := A
  refine K.lift (fun p e s m args below meth c F T locs X eT t q => ?_) k
  exact X.aaload F.1 (by rw [eT]; exact A.1) (State.isArrayOf_alike F.2.2.2.2.2.1.alike A.2.1) hty A.2.2 (inb_of S ⟨h1, h2⟩) (hv ▸ G j h1 h2) (g := mkF m pc ls (.int j :: .ref a :: st)) rfl rfl (hb F.2.1 hd) t q
theorem Kx.iastore (K : Kx E y bytes ml rt l Z R n0 Q) {N j x : Int32} {f : Int32 → Value} (hd : Dc bytes pc .iastore 1 pc') (A : Ia Z h a .int N f) (h1 : ¬ j < 0) (h2 : j < N) (ge : n0 ≤ a)
    (k : ∀ h', Wr h h' a j.toNatClampNeg (.int x) → Ia Z h' a .int N (fun k => if k = j then .int x else f k) → Wk E h' kc kn pc' ls st) : Wk E h kc kn pc ls (.int x :: .int j :: .ref a :: st) := by
  obtain ⟨hd, rfl⟩ := hd
  refine K.move (fun p e s m args below meth c G T locs X eT N' => ?_)
  obtain ⟨g1, g2, g3, g4, g5, hZ, hown, g8, g9⟩ := G
  have hn : n0 ≤ h.size := by rw [← eT]; exact Nat.le_trans g9 X.same.2.1
  obtain ⟨cl, Ar, S, M, G⟩ := id A
  obtain ⟨T', h', X', e', W, q'⟩ := RoadKit.stI X g1 hZ eT Ar (inb_of S ⟨h1, h2⟩) (g := mkF m pc ls (.int x :: .int j :: .ref a :: st)) rfl rfl (hb g2 hd)
  exact ⟨T', _, _, _, _, _, _, _, X', e', (Fr.snoc X' N' ge), (Nat.le_of_eq W.size.symm), k h' W (A.set W h1), fun t q => q' t q⟩
theorem Kx.bastore (K : Kx E y bytes ml rt l Z R n0 Q) {N j x : Int32} {f : Int32 → Value} (hd : Dc bytes pc .bastore 1 pc') (A : Ia Z h a .byte N f) (h1 : ¬ j < 0) (h2 : j < N) (ge : n0 ≤ a)
    (k : ∀ h', Wr h h' a j.toNatClampNeg (.int x.toInt8.toInt32) → Ia Z h' a .byte N (fun k => if k = j then .int x.toInt8.toInt32 else f k) → Wk E h' kc kn pc' ls st) : Wk E h kc kn pc ls (.int x :: .int j :: .ref a :: st) := by
  obtain ⟨hd, rfl⟩ := hd
  refine K.move (fun p e s m args below meth c G T locs X eT N' => ?_)
  obtain ⟨g1, g2, g3, g4, g5, hZ, hown, g8, g9⟩ := G
  have hn : n0 ≤ h.size := by rw [← eT]; exact Nat.le_trans g9 X.same.2.1
  obtain ⟨cl, Ar, S, M, G⟩ := id A
  obtain ⟨T', h', X', e', W, q'⟩ := RoadKit.stB X g1 hZ eT Ar (inb_of S ⟨h1, h2⟩) (g := mkF m pc ls (.int x :: .int j :: .ref a :: st)) rfl rfl (hb g2 hd)
  exact ⟨T', _, _, _, _, _, _, _, X', e', (Fr.snoc X' N' ge), (Nat.le_of_eq W.size.symm), k h' W (A.set W h1), fun t q => q' t q⟩
theorem Kx.castore (K : Kx E y bytes ml rt l Z R n0 Q) {N j x : Int32} {f : Int32 → Value} (hd : Dc bytes pc .castore 1 pc') (A : Ia Z h a .char N f) (h1 : ¬ j < 0) (h2 : j < N) (ge : n0 ≤ a)
    (k : ∀ h', Wr h h' a j.toNatClampNeg (.int x.toUInt32.toUInt16.toUInt32.toInt32) → Ia Z h' a .char N (fun k => if k = j then .int x.toUInt32.toUInt16.toUInt32.toInt32 else f k) → Wk E h' kc kn pc' ls st) : Wk E h kc kn pc ls (.int x :: .int j :: .ref a :: st) := by
  obtain ⟨hd, rfl⟩ := hd
  refine K.move (fun p e s m args below meth c G T locs X eT N' => ?_)
  obtain ⟨g1, g2, g3, g4, g5, hZ, hown, g8, g9⟩ := G
  have hn : n0 ≤ h.size := by rw [← eT]; exact Nat.le_trans g9 X.same.2.1
  obtain ⟨cl, Ar, S, M, G⟩ := id A
  obtain ⟨T', h', X', e', W, q'⟩ := RoadKit.stC X g1 hZ eT Ar (inb_of S ⟨h1, h2⟩) (g := mkF m pc ls (.int x :: .int j :: .ref a :: st)) rfl rfl (hb g2 hd)
  exact ⟨T', _, _, _, _, _, _, _, X', e', (Fr.snoc X' N' ge), (Nat.le_of_eq W.size.symm), k h' W (A.set W h1), fun t q => q' t q⟩
theorem Kx.getS (K : Kx E y bytes ml rt l Z R n0 Q) {i : Nat} {O n d : String} {v : Value} (hd : Dc bytes pc (.getstatic i) 3 pc') (w : (Jvm.Cond.fieldLink y.cls i O n d).before a0 Z = true) (F : Sta Z h O n d v) (k : Wk E h kc kn pc' ls (v :: st)) : Wk E h kc kn pc ls st := by
  obtain ⟨hd, rfl⟩ := hd
  refine K.move (fun p e s m args below meth c G T locs X eT N => ?_)
  obtain ⟨g1, g2, g3, g4, g5, hZ, hown, g8, g9⟩ := G
  have hn : n0 ≤ h.size := by rw [← eT]; exact Nat.le_trans g9 X.same.2.1
  obtain ⟨T', X', e', q'⟩ := RoadKit.getS (host := "") X g1 hZ hown w Via.refl eT F (g := mkF m pc ls st) rfl (hb g2 hd)
  exact ⟨T', _, _, _, _, _, _, _, X', e', N, (Nat.le_refl _), k, fun t q => q' t q⟩
theorem Kx.castY (K : Kx E y bytes ml rt l Z R n0 Q) {i : Nat} {C : String} (hd : Dc bytes pc (.checkcast i) 3 pc') (w : (Jvm.Cond.classLink y.cls i C).before a0 Z = true) (F : Ins Z h a C true) (k : Wk E h kc kn pc' ls (.ref a :: st)) : Wk E h kc kn pc ls (.ref a :: st) := by
  obtain ⟨hd, rfl⟩ := hd
  refine K.move (fun p e s m args below meth c G T locs X eT N => ?_)
  obtain ⟨g1, g2, g3, g4, g5, hZ, hown, g8, g9⟩ := G
  obtain ⟨T', X', e', q'⟩ := RoadKit.castY X g1 hZ hown w eT F (g := mkF m pc ls (.ref a :: st)) rfl rfl (hb g2 hd)
  exact ⟨T', _, _, _, _, _, _, _, X', e', N, (Nat.le_refl _), k, fun t q => q' t q⟩
theorem Kx.instY (K : Kx E y bytes ml rt l Z R n0 Q) {i : Nat} {C : String} (hd : Dc bytes pc (.instanceof i) 3 pc') (w : (Jvm.Cond.classLink y.cls i C).before a0 Z = true) (F : Ins Z h a C true) (k : Wk E h kc kn pc' ls (.int 1 :: st)) : Wk E h kc kn pc ls (.ref a :: st) := by
  obtain ⟨hd, rfl⟩ := hd
  refine K.move (fun p e s m args below meth c G T locs X eT N => ?_)
  obtain ⟨g1, g2, g3, g4, g5, hZ, hown, g8, g9⟩ := G
  obtain ⟨T', X', e', q'⟩ := RoadKit.instY X g1 hZ hown w eT F (g := mkF m pc ls (.ref a :: st)) rfl rfl (hb g2 hd)
  exact ⟨T', _, _, _, _, _, _, _, X', e', N, (Nat.le_refl _), k, fun t q => q' t q⟩
theorem Kx.instNo (K : Kx E y bytes ml rt l Z R n0 Q) {i : Nat} {C D : String} (hd : Dc bytes pc (.instanceof i) 3 pc') (w : (Jvm.Cond.classLink y.cls i C).before a0 Z = true) (X0 : Exa Z h a D) (F : ∃ c t, Z.vm.findClass D = some c ∧ Z.vm.findClass C = some t ∧ Z.vm.assignable c t = false) (k : Wk E h kc kn pc' ls (.int 0 :: st)) : Wk E h kc kn pc ls (.ref a :: st) := by
  obtain ⟨hd, rfl⟩ := hd
  refine K.move (fun p e s m args below meth c G T locs X eT N => ?_)
  obtain ⟨g1, g2, g3, g4, g5, hZ, hown, g8, g9⟩ := G
  obtain ⟨T', X', e', q'⟩ := RoadKit.instNo X g1 hZ hown w eT X0 F (g := mkF m pc ls (.ref a :: st)) rfl rfl (hb g2 hd)
  exact ⟨T', _, _, _, _, _, _, _, X', e', N, (Nat.le_refl _), k, fun t q => q' t q⟩
theorem Kx.instNull (K : Kx E y bytes ml rt l Z R n0 Q) {i : Nat} (hd : Dc bytes pc (.instanceof i) 3 pc') (k : Wk E h kc kn pc' ls (.int 0 :: st)) : Wk E h kc kn pc ls (.null :: st) := by
  obtain ⟨hd, rfl⟩ := hd
  exact K.lift (fun p e s m args below meth c F T locs X eT t q => X.instanceofNull F.1 (g := mkF m pc ls (.null :: st)) rfl rfl (hb F.2.1 hd) t q) k
def Pl (h : Heap) (x : Addr) : Prop := ∃ c : Cell, h[x]? = some c ∧ c.vm.isStatics = false
theorem plE {C : String} (F : Exa Z h a C) : Pl h a := by obtain ⟨c, _, h1, -, -, h4, -⟩ := F; exact ⟨c, h1, h4⟩
theorem plA {ty : FieldType} {N : Int32} {f : Int32 → Value} (F : Ia Z h a ty N f) : Pl h a := by obtain ⟨c, A, -⟩ := F; exact ⟨c, A.1, A.plain⟩
theorem staK {C n d : String} {v : Value} {ws : List Addr} (F : Sta Z h C n d v) (K : Keep h h' ws) (q : ∀ x ∈ ws, Pl h x) : Sta Z h' C n d v := by
  obtain ⟨cf, i, k, f, sa, cell, h1, h2, h3, h4, h5, h6, h7⟩ := F
  refine ⟨cf, i, k, f, sa, cell, h1, h2, h3, h4, K.2.1 sa cell h5 (fun u => ?_), h6, h7⟩
  obtain ⟨c, e1, e2⟩ := q sa u
  cases h5.symm.trans e1
  rw [e2] at h6; cases h6
theorem Kx.ac_eq (K : Kx E y bytes ml rt l Z R n0 Q) {o : Int} (hd : Db bytes pc (.if_acmp .eq o) o pc1 pc2) (k1 : a = b → Wk E h kc kn pc2 ls st) (k2 : ¬ a = b → Wk E h kc kn pc1 ls st) : Wk E h kc kn pc ls (.ref b :: .ref a :: st) := by
  obtain ⟨hd, rfl, h0, h1⟩ := hd
  by_cases u : a = b
  · exact K.lift (fun p e s m args below meth c F T locs X eT t q => RoadKit.acmp (g := mkF m pc ls (.ref b :: .ref a :: st)) X F.1 rfl (x := .ref a) (y := .ref b) rfl rfl (same := true) rfl (hb F.2.1 hd) rfl (by simp [u]) h0 (by simp [acV, h1]) q) (k1 u)
  · exact K.lift (fun p e s m args below meth c F T locs X eT t q => RoadKit.acmp (g := mkF m pc ls (.ref b :: .ref a :: st)) X F.1 rfl (x := .ref a) (y := .ref b) rfl rfl (same := false) rfl (hb F.2.1 hd) rfl (by simp [u]) h0 (by simp [acV]) q) (k2 u)
theorem Kx.ac_ne (K : Kx E y bytes ml rt l Z R n0 Q) {o : Int} (hd : Db bytes pc (.if_acmp .ne o) o pc1 pc2) (k1 : a = b → Wk E h kc kn pc1 ls st) (k2 : ¬ a = b → Wk E h kc kn pc2 ls st) : Wk E h kc kn pc ls (.ref b :: .ref a :: st) := by
  obtain ⟨hd, rfl, h0, h1⟩ := hd
  by_cases u : a = b
  · exact K.lift (fun p e s m args below meth c F T locs X eT t q => RoadKit.acmp (g := mkF m pc ls (.ref b :: .ref a :: st)) X F.1 rfl (x := .ref a) (y := .ref b) rfl rfl (same := true) rfl (hb F.2.1 hd) rfl (by simp [u]) h0 (by simp [acV]) q) (k1 u)
  · exact K.lift (fun p e s m args below meth c F T locs X eT t q => RoadKit.acmp (g := mkF m pc ls (.ref b :: .ref a :: st)) X F.1 rfl (x := .ref a) (y := .ref b) rfl rfl (same := false) rfl (hb F.2.1 hd) rfl (by simp [u]) h0 (by simp [acV, h1]) q) (k2 u)
theorem Kx.initO (K : Kx E y bytes ml rt l Z R n0 Q) {i : Nat} (W : Nat) (hd : Dc bytes pc (.invokespecial i) 3 pc') (w1 : (Jvm.Cond.methodLink y.cls i Lib.objectInit).before a0 Z = true) (w2 : (Jvm.Cond.instanceMethod Lib.objectInit).before a0 Z = true) (w3 : (Jvm.Cond.code Lib.objectInit ⟨#[0xb1]⟩ 1 none).before a0 Z = true)
    (hsz : ls.size = ml) (hf : 1 ≤ R.frames) (hW : (st.map fun v => v.category).sum ≤ W) (hlo : W + 12 ≤ R.locals) (k : Wk E h kc kn pc' ls st) : Wk E h kc kn pc ls (.ref a :: st) := by
  obtain ⟨hd, rfl⟩ := hd
  refine K.move (fun p e s m args below meth c G T locs X eT N => ?_)
  obtain ⟨g1, g2, g3, g4, g5, hZ, hown, g8, g9⟩ := G
  have hn : n0 ≤ h.size := by rw [← eT]; exact Nat.le_trans g9 X.same.2.1
  obtain ⟨T', X', e', q'⟩ := RoadKit.initO X g1 hZ hown w1 w2 w3 eT (g := mkF m pc ls (.ref a :: st)) rfl (by rw [g3]; exact hsz) rfl (hb g2 hd) hf (W := W) (by show 2 * 0 + _ ≤ _; omega) hlo
  exact ⟨T', _, _, _, _, _, _, _, X', e', N, (Nat.le_refl _), k, fun t q => q' t q⟩
theorem Kx.callS (K : Kx E y bytes ml rt l Z R n0 Q) {i : Nat} {y' : MethodName} {bytes' : ByteArray} {ml' : Nat} {rt' : Option FieldType} {rm : Room} {Q' : Option Value → Heap → Prop} (as rest : List Value) (W kc' kn' : Nat) (hd : Dc bytes pc (.invokestatic i) 3 pc')
    (wl : (Jvm.Cond.methodLink y.cls i y').before a0 Z = true) (ws : (Jvm.Cond.static y').before a0 Z = true) (wz : (Jvm.Cond.initialized y'.cls).before a0 Z = true) (wc : (Jvm.Cond.code y' bytes' ml' rt').before a0 Z = true) (hy : y'.cls ≠ "java/lang/invoke/MethodHandle" ∧ y'.cls ≠ "java/lang/invoke/VarHandle")
    (con : Con l Z y' bytes' ml' rt' rm as.toArray h n0 Q') (hst : st = as.reverse ++ rest) (hlen : ∀ sig, parseMethodDescriptor y'.desc = some sig → as.length = sig.parameters.length) (hsz : ls.size = ml) (hW : (rest.map fun v => v.category).sum ≤ W)
    (hf : rm.frames + 1 ≤ R.frames) (hlo : W + (ml' + 11) + rm.locals ≤ R.locals) (hk : kc + rm.cells = kc') (hk2 : kn + rm.slots = kn') (hc : kc' ≤ R.cells) (hl : kn' ≤ R.slots)
    (k : ∀ v h', Q' v h' → Wk E h' kc' kn' pc' ls (v.toList ++ rest)) : Wk E h kc kn pc ls st := by
  obtain ⟨hd, rfl⟩ := hd
  obtain ⟨p, e, s, m, args, below, meth, c, rfl, g1, g2, g3, g4, g5, hZ, hown, g8, g9⟩ := K
  intro T locs X eT N
  have hn : n0 ≤ h.size := by rw [← eT]; exact Nat.le_trans g9 X.same.2.1
  subst hst hk hk2
  obtain ⟨v, vm₁, ⟨T', L', k', n'⟩, -, X', ⟨L, ⟨hQ, hFr⟩, e1, e2, e3⟩, q'⟩ := Jvm.LawKit.callS X g1 (y := y') hown (mvT hZ wl) (mvT hZ ws) (mvT hZ wz) (mvT hZ wc) hy (backOf (W := W) (Q := fun v h L => Q' v h ∧ Fr n0 L) (con hn []) hZ wc wz hf hlo) (g := mkF m pc ls (as.reverse ++ rest)) rfl (by rw [g3]; exact hsz) (argsL := as) (rest := rest) hlen rfl (by show 2 * 0 + _ ≤ _; omega) (hb g2 hd) (fun _ _ => ⟨rfl, eT, hc, hl⟩)
  dsimp only [Pt.U, Pt.locs, Pt.cells, Pt.slots] at X' e1 e2 e3 q' hQ
  subst e1 e2 e3
  obtain ⟨s₂, o, q, r⟩ := k v T'.heap hQ T' _ X' rfl (Fr.app N hFr)
  exact ⟨s₂, o, q' _ q, r⟩
theorem Kx.callI (K : Kx E y bytes ml rt l Z R n0 Q) {i : Nat} {y' : MethodName} {bytes' : ByteArray} {ml' : Nat} {rt' : Option FieldType} {rm : Room} {Q' : Option Value → Heap → Prop} (as rest : List Value) (W kc' kn' : Nat) (hd : Dc bytes pc (.invokespecial i) 3 pc') (hy1 : y'.name = "<init>") (hrt : rt' = none)
    (wl : (Jvm.Cond.methodLink y.cls i y').before a0 Z = true) (wn : (Jvm.Cond.instanceMethod y').before a0 Z = true) (wz : (Jvm.Cond.initialized y'.cls).before a0 Z = true) (wc : (Jvm.Cond.code y' bytes' ml' rt').before a0 Z = true) (hy : y'.cls ≠ "java/lang/invoke/MethodHandle" ∧ y'.cls ≠ "java/lang/invoke/VarHandle")
    (con : Con l Z y' bytes' ml' rt' rm (.ref a :: as).toArray h n0 Q') (hst : st = as.reverse ++ .ref a :: rest) (hlen : ∀ sig, parseMethodDescriptor y'.desc = some sig → as.length = sig.parameters.length) (hsz : ls.size = ml) (hW : (rest.map fun v => v.category).sum ≤ W)
    (hf : rm.frames + 1 ≤ R.frames) (hlo : W + (ml' + 11) + rm.locals ≤ R.locals) (hk : kc + rm.cells = kc') (hk2 : kn + rm.slots = kn') (hc : kc' ≤ R.cells) (hl : kn' ≤ R.slots)
    (k : ∀ v h', Q' v h' → Wk E h' kc' kn' pc' ls (v.toList ++ rest)) : Wk E h kc kn pc ls st := by
  obtain ⟨hd, rfl⟩ := hd
  obtain ⟨p, e, s, m, args, below, meth, c, rfl, g1, g2, g3, g4, g5, hZ, hown, g8, g9⟩ := K
  intro T locs X eT N
  have hn : n0 ≤ h.size := by rw [← eT]; exact Nat.le_trans g9 X.same.2.1
  subst hst hk hk2
  subst hrt
  obtain ⟨v, vm₁, ⟨T', L', k', n'⟩, -, X', ⟨L, ⟨hQ, hFr⟩, e1, e2, e3⟩, q'⟩ := X.specialBack g1 (y := y') hy1 hown (mvT hZ wl) (mvT hZ wn) (mvT hZ wc) hy (backOf (W := W) (Q := fun v h L => Q' v h ∧ Fr n0 L) (con hn []) hZ wc wz hf hlo) (g := mkF m pc ls (as.reverse ++ .ref a :: rest)) rfl (by rw [g3]; exact hsz) (Steps.refl _) (a := a) (argsL := as) (rest := rest) hlen rfl (by show 2 * 0 + _ ≤ _; omega) (hb g2 hd) (fun _ _ => ⟨rfl, eT, hc, hl⟩)
  dsimp only [Pt.U, Pt.locs, Pt.cells, Pt.slots] at X' e1 e2 e3 q' hQ
  subst e1 e2 e3
  obtain ⟨s₂, o, q, r⟩ := k v T'.heap hQ T' _ X' rfl (Fr.app N hFr)
  exact ⟨s₂, o, q'.trans q, r⟩
theorem Kx.callV (K : Kx E y bytes ml rt l Z R n0 Q) {i : Nat} {y' : MethodName} {bytes' : ByteArray} {ml' : Nat} {rt' : Option FieldType} {rm : Room} {Q' : Option Value → Heap → Prop} (as rest : List Value) (W kc' kn' : Nat) {C : String} (hd : Dc bytes pc (.invokevirtual i) 3 pc')
    (wl : (Jvm.Cond.methodLink y.cls i y').before a0 Z = true) (wd : (Jvm.Cond.declares y').before a0 Z = true) (wse : (Jvm.Cond.selects C y' y').before a0 Z = true) (wn : (Jvm.Cond.instanceMethod y').before a0 Z = true) (wz : (Jvm.Cond.initialized y'.cls).before a0 Z = true) (wc : (Jvm.Cond.code y' bytes' ml' rt').before a0 Z = true) (hy : y'.cls ≠ "java/lang/invoke/MethodHandle" ∧ y'.cls ≠ "java/lang/invoke/VarHandle")
    (con : Con l Z y' bytes' ml' rt' rm (.ref a :: as).toArray h n0 Q') (X0 : Exa Z h a C) (hst : st = as.reverse ++ .ref a :: rest) (hlen : ∀ sig, parseMethodDescriptor y'.desc = some sig → as.length = sig.parameters.length) (hsz : ls.size = ml) (hW : (rest.map fun v => v.category).sum ≤ W)
    (hf : rm.frames + 1 ≤ R.frames) (hlo : W + (ml' + 11) + rm.locals ≤ R.locals) (hk : kc + rm.cells = kc') (hk2 : kn + rm.slots = kn') (hc : kc' ≤ R.cells) (hl : kn' ≤ R.slots)
    (k : ∀ v h', Q' v h' → Wk E h' kc' kn' pc' ls (v.toList ++ rest)) : Wk E h kc kn pc ls st := by
  obtain ⟨hd, rfl⟩ := hd
  obtain ⟨p, e, s, m, args, below, meth, c, rfl, g1, g2, g3, g4, g5, hZ, hown, g8, g9⟩ := K
  intro T locs X eT N
  have hn : n0 ≤ h.size := by rw [← eT]; exact Nat.le_trans g9 X.same.2.1
  subst hst hk hk2
  obtain ⟨cq, kq, qa, qb, qc⟩ := isOf hZ eT X0
  obtain ⟨v, vm₁, ⟨T', L', k', n'⟩, -, X', ⟨L, ⟨hQ, hFr⟩, e1, e2, e3⟩, q'⟩ := X.virtualBack g1 (y := y') (z := y') hown (mvT hZ wl) (mvT hZ wd) (notFace_of_selects (args := #[]) (mvT hZ wse)) (mvT hZ wse) (mvT hZ wn) hy (backOf (W := W) (Q := fun v h L => Q' v h ∧ Fr n0 L) (con hn []) hZ wc wz hf hlo) qa qc (g := mkF m pc ls (as.reverse ++ .ref a :: rest)) rfl (by rw [g3]; exact hsz) (Steps.refl _) (argsL := as) (rest := rest) hlen rfl (by show 2 * 0 + _ ≤ _; omega) (hb g2 hd) (fun _ _ => ⟨rfl, eT, hc, hl⟩)
  dsimp only [Pt.U, Pt.locs, Pt.cells, Pt.slots] at X' e1 e2 e3 q' hQ
  subst e1 e2 e3
  obtain ⟨s₂, o, q, r⟩ := k v T'.heap hQ T' _ X' rfl (Fr.app N hFr)
  exact ⟨s₂, o, q'.trans q, r⟩
theorem Kx.callP (K : Kx E y bytes ml rt l Z R n0 Q) {i : Nat} {y' : MethodName} {bytes' : ByteArray} {ml' : Nat} {rt' : Option FieldType} {rm : Room} {Q' : Option Value → Heap → Prop} (as rest : List Value) (W kc' kn' : Nat) {C : String} (hd : Dc bytes pc (.invokevirtual i) 3 pc')
    (wl : (Jvm.Cond.methodLink y.cls i y').before a0 Z = true) (wp : (Jvm.Cond.privateMethod y').before a0 Z = true) (wse : (Jvm.Cond.selects y'.cls y' y').before a0 Z = true) (wn : (Jvm.Cond.instanceMethod y').before a0 Z = true) (wz : (Jvm.Cond.initialized y'.cls).before a0 Z = true) (wc : (Jvm.Cond.code y' bytes' ml' rt').before a0 Z = true) (hy : y'.cls ≠ "java/lang/invoke/MethodHandle" ∧ y'.cls ≠ "java/lang/invoke/VarHandle")
    (con : Con l Z y' bytes' ml' rt' rm (.ref a :: as).toArray h n0 Q') (X0 : Exa Z h a C) (hst : st = as.reverse ++ .ref a :: rest) (hlen : ∀ sig, parseMethodDescriptor y'.desc = some sig → as.length = sig.parameters.length) (hsz : ls.size = ml) (hW : (rest.map fun v => v.category).sum ≤ W)
    (hf : rm.frames + 1 ≤ R.frames) (hlo : W + (ml' + 11) + rm.locals ≤ R.locals) (hk : kc + rm.cells = kc') (hk2 : kn + rm.slots = kn') (hc : kc' ≤ R.cells) (hl : kn' ≤ R.slots)
    (k : ∀ v h', Q' v h' → Wk E h' kc' kn' pc' ls (v.toList ++ rest)) : Wk E h kc kn pc ls st := by
  obtain ⟨hd, rfl⟩ := hd
  obtain ⟨p, e, s, m, args, below, meth, c, rfl, g1, g2, g3, g4, g5, hZ, hown, g8, g9⟩ := K
  intro T locs X eT N
  have hn : n0 ≤ h.size := by rw [← eT]; exact Nat.le_trans g9 X.same.2.1
  subst hst hk hk2
  obtain ⟨cq, qa, qb⟩ := X0.cell
  obtain ⟨v, vm₁, ⟨T', L', k', n'⟩, -, X', ⟨L, ⟨hQ, hFr⟩, e1, e2, e3⟩, q'⟩ := X.privateBack g1 (y := y') hown (mvT hZ wl) (mvT hZ wn) (mvT hZ wse) (Cond.privateMethod_at (mvP hZ wp (args := #[]))) (mvT hZ wc) hy (backOf (W := W) (Q := fun v h L => Q' v h ∧ Fr n0 L) (con hn []) hZ wc wz hf hlo) (g := mkF m pc ls (as.reverse ++ .ref a :: rest)) rfl (by rw [g3]; exact hsz) (Steps.refl _) (a := a) (by rw [eT]; exact qa) qb (argsL := as) (rest := rest) hlen rfl (by show 2 * 0 + _ ≤ _; omega) (hb g2 hd) (fun _ _ => ⟨rfl, eT, hc, hl⟩)
  dsimp only [Pt.U, Pt.locs, Pt.cells, Pt.slots] at X' e1 e2 e3 q' hQ
  subst e1 e2 e3
  obtain ⟨s₂, o, q, r⟩ := k v T'.heap hQ T' _ X' rfl (Fr.app N hFr)
  exact ⟨s₂, o, q'.trans q, r⟩
/-- how a call goes on: it hands back one value and leaves the heap; a value; nothing; a reference -/
theorem goP {val : Value} {rest : List Value} (k : Wk E h kc kn pc ls (val :: rest)) : ∀ v h', (v = some val ∧ h' = h) → Wk E h' kc kn pc ls (v.toList ++ rest) := fun v h' q => by obtain ⟨rfl, rfl⟩ := q; exact k
theorem goV {val : Value} {rest : List Value} {Qh : Heap → Prop} (k : ∀ h', Qh h' → Wk E h' kc kn pc ls (val :: rest)) : ∀ v h', (v = some val ∧ Qh h') → Wk E h' kc kn pc ls (v.toList ++ rest) := fun v h' q => by obtain ⟨rfl, q⟩ := q; exact k h' q
theorem goN {rest : List Value} (k : Wk E h kc kn pc ls rest) : ∀ v h', (v = (none : Option Value) ∧ h' = h) → Wk E h' kc kn pc ls (v.toList ++ rest) := fun v h' q => by obtain ⟨rfl, rfl⟩ := q; exact k
theorem goU {rest : List Value} {Qh : Heap → Prop} (k : ∀ h', Qh h' → Wk E h' kc kn pc ls rest) : ∀ v h', (v = (none : Option Value) ∧ Qh h') → Wk E h' kc kn pc ls (v.toList ++ rest) := fun v h' q => by obtain ⟨rfl, q⟩ := q; exact k h' q
theorem goR {rest : List Value} {Qr : Addr → Heap → Prop} (k : ∀ a h', Qr a h' → Wk E h' kc kn pc ls (.ref a :: rest)) : ∀ v h', (∃ a, v = some (.ref a) ∧ Qr a h') → Wk E h' kc kn pc ls (v.toList ++ rest) := fun v h' q => by obtain ⟨a, rfl, q⟩ := q; exact k a h' q
theorem goI {rest : List Value} {Qr : Int32 → Heap → Prop} (k : ∀ a h', Qr a h' → Wk E h' kc kn pc ls (.int a :: rest)) : ∀ v h', (∃ a, v = some (.int a) ∧ Qr a h') → Wk E h' kc kn pc ls (v.toList ++ rest) := fun v h' q => by obtain ⟨a, rfl, q⟩ := q; exact k a h' q
theorem goIs {rest : List Value} {Pz : Int32 → Prop} (k : ∀ z, Pz z → Wk E h kc kn pc ls (.int z :: rest)) : ∀ v h', (∃ z, v = some (.int z) ∧ (h' = h ∧ Pz z)) → Wk E h' kc kn pc ls (v.toList ++ rest) := fun v h' q => by obtain ⟨z, rfl, rfl, q⟩ := q; exact k z q
theorem Kx.ret (K : Kx E y bytes ml none l Z R n0 Q) (hd : Dc bytes pc .return_ 1 pc') (hc : kc ≤ R.cells) (hl : kn ≤ R.slots) (hQ : Q none h) : Wk E h kc kn pc ls [] := by
  obtain ⟨p, e, s, m, args, below, meth, c, rfl, g1, g2, g3, g4, g5, hZ, hown, g8, g9⟩ := K
  intro T locs X eT N
  obtain ⟨fs, hr, hrun, hended, hW, hsame⟩ := X.leave (v := none) (fun _ => rfl) g5
  exact ⟨_, _, X.returnOut g1 g4 (hb g2 hd.1) hr, hrun, hended, _, _, rfl, ⟨(by show Q none T.heap; rw [eT]; exact hQ), N⟩, ⟨_, rfl⟩, hW, hsame.mono hc hl⟩
theorem Kx.retW {t : FieldType} {w : Value} {i : Instr} (K : Kx E y bytes ml (some t) l Z R n0 Q) (hd : Dc bytes pc i 1 pc') (hna : narrow t w = w) (hi : (i = .ireturn ∧ (t = .int ∨ t = .boolean ∨ t = .byte ∨ t = .char ∨ t = .short) ∧ ∃ z, w = .int z) ∨ (i = .lreturn ∧ t = .long ∧ ∃ z, w = .long z) ∨ (i = .dreturn ∧ t = .double ∧ ∃ z, w = .double z) ∨ (i = .freturn ∧ t = .float ∧ ∃ z, w = .float z) ∨ (i = .areturn ∧ t.isReference = true ∧ w.isRef = true)) (hc : kc ≤ R.cells) (hl : kn ≤ R.slots) (hQ : Q (some w) h) : Wk E h kc kn pc ls (w :: st) := by
  obtain ⟨p, e, s, m, args, below, meth, c, rfl, g1, g2, g3, g4, g5, hZ, hown, g8, g9⟩ := K
  intro T locs X eT N
  obtain ⟨fs, hr, hrun, hended, hW, hsame⟩ := X.leave (v := some w) (fun h => by rw [g4] at h; cases h) g5
  exact ⟨_, _, retOut X g1 g4 hna hi (hb g2 hd.1) hr, hrun, hended, _, _, rfl, ⟨(by show Q (some w) T.heap; rw [eT]; exact hQ), N⟩, ⟨_, rfl⟩, hW, hsame.mono hc hl⟩
theorem Kx.ireturn {t : FieldType} {z : Int32} (K : Kx E y bytes ml (some t) l Z R n0 Q) (hd : Dc bytes pc .ireturn 1 pc') (ht : t = .int ∨ t = .boolean ∨ t = .byte ∨ t = .char ∨ t = .short) (hna : narrow t (.int z) = .int z) (hc : kc ≤ R.cells) (hl : kn ≤ R.slots) (hQ : Q (some (.int z)) h) : Wk E h kc kn pc ls (.int z :: st) :=
  K.retW hd hna (Or.inl ⟨rfl, ht, z, rfl⟩) hc hl hQ
theorem Kx.lreturn {z : Int64} (K : Kx E y bytes ml (some .long) l Z R n0 Q) (hd : Dc bytes pc .lreturn 1 pc') (hc : kc ≤ R.cells) (hl : kn ≤ R.slots) (hQ : Q (some (.long z)) h) : Wk E h kc kn pc ls (.long z :: st) :=
  K.retW hd rfl (Or.inr (Or.inl ⟨rfl, rfl, z, rfl⟩)) hc hl hQ
theorem Kx.areturn {t : FieldType} {w : Value} (K : Kx E y bytes ml (some t) l Z R n0 Q) (hd : Dc bytes pc .areturn 1 pc') (ht : t.isReference = true) (hw : w.isRef = true) (hna : narrow t w = w) (hc : kc ≤ R.cells) (hl : kn ≤ R.slots) (hQ : Q (some w) h) : Wk E h kc kn pc ls (w :: st) :=
  K.retW hd hna (Or.inr (Or.inr (Or.inr (Or.inr ⟨rfl, ht, hw⟩)))) hc hl hQ
theorem narB {P : Prop} [Decidable P] : narrow .boolean (.int (if P then 1 else 0)) = .int (if P then 1 else 0) := by split <;> rfl
theorem narB' {P : Prop} [Decidable P] : narrow .boolean (.int (if P then 0 else 1)) = .int (if P then 0 else 1) := by split <;> rfl
end Own
end Jvm.Pilot.@@N@@
namespace Jvm.Pilot.@@N@@
open Jvm Jvm.ClassFile Sem Op Lib Jvm.Free Jvm.Stand Jvm.LawKit Jvm.RoadKit Bundle Jvm.Pilot.@@N@@.Jvm.D
theorem dMN_0 : Dc jdk_29_method_69_code 0 (.iload_n 0) 1 1 := ⟨by decide +kernel, rfl⟩
theorem dMN_1 : Dc jdk_29_method_69_code 1 (.iload_n 1) 1 2 := ⟨by decide +kernel, rfl⟩
theorem dMN_2 : Db jdk_29_method_69_code 2 (.if_icmp .gt 7) 7 5 9 := ⟨by decide +kernel, rfl, by decide, by decide⟩
theorem dMN_9 : Dc jdk_29_method_69_code 9 (.iload_n 1) 1 10 := ⟨by decide +kernel, rfl⟩
theorem dMN_10 : Dc jdk_29_method_69_code 10 .ireturn 1 11 := ⟨by decide +kernel, rfl⟩
theorem dMN_5 : Dc jdk_29_method_69_code 5 (.iload_n 0) 1 6 := ⟨by decide +kernel, rfl⟩
theorem dMN_6 : Db jdk_29_method_69_code 6 (.goto 4) 4 9 10 := ⟨by decide +kernel, rfl, by decide, by decide⟩
theorem efMN (m : MethodId) (x0 : Int32) (x1 : Int32) : entryFrame m #[.int x0, .int x1] 2 = mkF m 0 #[.val (.int x0), .val (.int x1)] [] := by first | (simp [entryFrame, mkF, argsToLocals, Value.category]; done) | rfl
theorem pnMN : plainFor (⟨"java/lang/Math", "min", "(II)I"⟩ : MethodName) = true := Jvm.Free.JP.mathPlain rfl (by decide +kernel)
theorem dRN_0 : Dc jdk_31_method_10_code 0 (.aload_n 0) 1 1 := ⟨by decide +kernel, rfl⟩
theorem dRN_1 : Db jdk_31_method_10_code 1 (.ifnonnull 11) 11 4 12 := ⟨by decide +kernel, rfl, by decide, by decide⟩
theorem dRN_12 : Dc jdk_31_method_10_code 12 (.aload_n 0) 1 13 := ⟨by decide +kernel, rfl⟩
theorem dRN_13 : Dc jdk_31_method_10_code 13 .areturn 1 14 := ⟨by decide +kernel, rfl⟩
theorem efRN (m : MethodId) (x0 : Addr) : entryFrame m #[.ref x0] 1 = mkF m 0 #[.val (.ref x0)] [] := by first | (simp [entryFrame, mkF, argsToLocals, Value.category]; done) | rfl
theorem pnRN : plainFor (⟨"java/util/Objects", "requireNonNull", "(Ljava/lang/Object;)Ljava/lang/Object;"⟩ : MethodName) = true := plainFor_of_name (by first | (simp [plainName, overriddenIn]; done) | decide +kernel)
theorem dGN_0 : Dc prog_23_method_4_code 0 (.aload_n 0) 1 1 := ⟨by decide +kernel, rfl⟩
theorem dGN_1 : Dc prog_23_method_4_code 1 (.getfield 22) 3 4 := ⟨by decide +kernel, rfl⟩
set_option maxRecDepth 65536 in
theorem wd20 {Z : State} {a0 : Array Value} (hw : ∀ d ∈ tables_1, d.before a0 Z = true) : (Jvm.Cond.fieldLink "com/example/horatius/horatius/core/PageSummary" (22 : Nat) "com/example/horatius/horatius/core/PageSummary" "nodes" "I").before a0 Z = true := hw _ (List.mem_of_getElem? (i := 20) rfl)
theorem dGN_4 : Dc prog_23_method_4_code 4 .ireturn 1 5 := ⟨by decide +kernel, rfl⟩
theorem efGN (m : MethodId) (x0 : Addr) : entryFrame m #[.ref x0] 1 = mkF m 0 #[.val (.ref x0)] [] := by first | (simp [entryFrame, mkF, argsToLocals, Value.category]; done) | rfl
theorem pnGN : plainFor (⟨"com/example/horatius/horatius/core/PageSummary", "nodes", "()I"⟩ : MethodName) = true := plainFor_of_name (by first | (simp [plainName, overriddenIn]; done) | decide +kernel)
theorem dGD_0 : Dc prog_23_method_7_code 0 (.aload_n 0) 1 1 := ⟨by decide +kernel, rfl⟩
theorem dGD_1 : Dc prog_23_method_7_code 1 (.getfield 41) 3 4 := ⟨by decide +kernel, rfl⟩
set_option maxRecDepth 65536 in
theorem wd32 {Z : State} {a0 : Array Value} (hw : ∀ d ∈ tables_1, d.before a0 Z = true) : (Jvm.Cond.fieldLink "com/example/horatius/horatius/core/PageSummary" (41 : Nat) "com/example/horatius/horatius/core/PageSummary" "lastDepth" "I").before a0 Z = true := hw _ (List.mem_of_getElem? (i := 32) rfl)
theorem dGD_4 : Dc prog_23_method_7_code 4 .ireturn 1 5 := ⟨by decide +kernel, rfl⟩
theorem efGD (m : MethodId) (x0 : Addr) : entryFrame m #[.ref x0] 1 = mkF m 0 #[.val (.ref x0)] [] := by first | (simp [entryFrame, mkF, argsToLocals, Value.category]; done) | rfl
theorem pnGD : plainFor (⟨"com/example/horatius/horatius/core/PageSummary", "lastDepth", "()I"⟩ : MethodName) = true := plainFor_of_name (by first | (simp [plainName, overriddenIn]; done) | decide +kernel)
theorem dGK_0 : Dc prog_23_method_6_code 0 (.aload_n 0) 1 1 := ⟨by decide +kernel, rfl⟩
theorem dGK_1 : Dc prog_23_method_6_code 1 (.getfield 37) 3 4 := ⟨by decide +kernel, rfl⟩
set_option maxRecDepth 65536 in
theorem wd30 {Z : State} {a0 : Array Value} (hw : ∀ d ∈ tables_1, d.before a0 Z = true) : (Jvm.Cond.fieldLink "com/example/horatius/horatius/core/PageSummary" (37 : Nat) "com/example/horatius/horatius/core/PageSummary" "lastKind" "Lcom/example/horatius/horatius/core/NodeKind;").before a0 Z = true := hw _ (List.mem_of_getElem? (i := 30) rfl)
theorem dGK_4 : Dc prog_23_method_6_code 4 .areturn 1 5 := ⟨by decide +kernel, rfl⟩
theorem efGK (m : MethodId) (x0 : Addr) : entryFrame m #[.ref x0] 1 = mkF m 0 #[.val (.ref x0)] [] := by first | (simp [entryFrame, mkF, argsToLocals, Value.category]; done) | rfl
theorem pnGK : plainFor (⟨"com/example/horatius/horatius/core/PageSummary", "lastKind", "()Lcom/example/horatius/horatius/core/NodeKind;"⟩ : MethodName) = true := plainFor_of_name (by first | (simp [plainName, overriddenIn]; done) | decide +kernel)
theorem dON_0 : Dc jdk_37_method_2_code 0 (.aload_n 0) 1 1 := ⟨by decide +kernel, rfl⟩
theorem dON_1 : Dc jdk_37_method_2_code 1 (.getfield 7) 3 4 := ⟨by decide +kernel, rfl⟩
set_option maxRecDepth 65536 in
theorem wd131 {Z : State} {a0 : Array Value} (hw : ∀ d ∈ tables_1, d.before a0 Z = true) : (Jvm.Cond.fieldLink "java/lang/Enum" (7 : Nat) "java/lang/Enum" "ordinal" "I").before a0 Z = true := hw _ (List.mem_of_getElem? (i := 131) rfl)
theorem dON_4 : Dc jdk_37_method_2_code 4 .ireturn 1 5 := ⟨by decide +kernel, rfl⟩
theorem efON (m : MethodId) (x0 : Addr) : entryFrame m #[.ref x0] 1 = mkF m 0 #[.val (.ref x0)] [] := by first | (simp [entryFrame, mkF, argsToLocals, Value.category]; done) | rfl
theorem pnON : plainFor (⟨"java/lang/Enum", "ordinal", "()I"⟩ : MethodName) = true := plainFor_of_name (by first | (simp [plainName, overriddenIn]; done) | decide +kernel)
theorem dCN_0 : Dc prog_19_method_25_code 0 (.iload_n 1) 1 1 := ⟨by decide +kernel, rfl⟩
theorem dCN_1 : Db prog_19_method_25_code 1 (.ifCond .lt 11) 11 4 12 := ⟨by decide +kernel, rfl, by decide, by decide⟩
theorem dCN_4 : Dc prog_19_method_25_code 4 (.iload_n 1) 1 5 := ⟨by decide +kernel, rfl⟩
theorem dCN_5 : Dc prog_19_method_25_code 5 (.aload_n 0) 1 6 := ⟨by decide +kernel, rfl⟩
theorem dCN_6 : Dc prog_19_method_25_code 6 (.getfield 30) 3 9 := ⟨by decide +kernel, rfl⟩
set_option maxRecDepth 65536 in
theorem wd72 {Z : State} {a0 : Array Value} (hw : ∀ d ∈ tables_1, d.before a0 Z = true) : (Jvm.Cond.fieldLink "com/example/horatius/horatius/core/OutlinePage" (30 : Nat) "com/example/horatius/horatius/core/OutlinePage" "nameCount" "I").before a0 Z = true := hw _ (List.mem_of_getElem? (i := 72) rfl)
theorem dCN_9 : Db prog_19_method_25_code 9 (.if_icmp .lt 26) 26 12 35 := ⟨by decide +kernel, rfl, by decide, by decide⟩
theorem dCN_35 : Dc prog_19_method_25_code 35 (.iload_n 1) 1 36 := ⟨by decide +kernel, rfl⟩
theorem dCN_36 : Dc prog_19_method_25_code 36 .ireturn 1 37 := ⟨by decide +kernel, rfl⟩
theorem efCN (m : MethodId) (x0 : Addr) (x1 : Int32) : entryFrame m #[.ref x0, .int x1] 2 = mkF m 0 #[.val (.ref x0), .val (.int x1)] [] := by first | (simp [entryFrame, mkF, argsToLocals, Value.category]; done) | rfl
theorem pnCN : plainFor (⟨"com/example/horatius/horatius/core/OutlinePage", "checkedName", "(I)I"⟩ : MethodName) = true := plainFor_of_name (by first | (simp [plainName, overriddenIn]; done) | decide +kernel)
theorem dCS_0 : Dc prog_19_method_26_code 0 (.aload_n 0) 1 1 := ⟨by decide +kernel, rfl⟩
theorem dCS_1 : Dc prog_19_method_26_code 1 (.getfield 24) 3 4 := ⟨by decide +kernel, rfl⟩
set_option maxRecDepth 65536 in
theorem wd68 {Z : State} {a0 : Array Value} (hw : ∀ d ∈ tables_1, d.before a0 Z = true) : (Jvm.Cond.fieldLink "com/example/horatius/horatius/core/OutlinePage" (24 : Nat) "com/example/horatius/horatius/core/OutlinePage" "start" "I").before a0 Z = true := hw _ (List.mem_of_getElem? (i := 68) rfl)
theorem dCS_4 : Dc prog_19_method_26_code 4 (.aload_n 0) 1 5 := ⟨by decide +kernel, rfl⟩
theorem dCS_5 : Dc prog_19_method_26_code 5 (.getfield 78) 3 8 := ⟨by decide +kernel, rfl⟩
set_option maxRecDepth 65536 in
theorem wd120 {Z : State} {a0 : Array Value} (hw : ∀ d ∈ tables_1, d.before a0 Z = true) : (Jvm.Cond.fieldLink "com/example/horatius/horatius/core/OutlinePage" (78 : Nat) "com/example/horatius/horatius/core/OutlinePage" "size" "I").before a0 Z = true := hw _ (List.mem_of_getElem? (i := 120) rfl)
theorem dCS_8 : Dc prog_19_method_26_code 8 .iadd 1 9 := ⟨by decide +kernel, rfl⟩
theorem dCS_9 : Db prog_19_method_26_code 9 (.ifCond .ne 13) 13 12 22 := ⟨by decide +kernel, rfl, by decide, by decide⟩
theorem dCS_22 : Dc prog_19_method_26_code 22 .return_ 1 23 := ⟨by decide +kernel, rfl⟩
theorem efCS (m : MethodId) (x0 : Addr) : entryFrame m #[.ref x0] 1 = mkF m 0 #[.val (.ref x0)] [] := by first | (simp [entryFrame, mkF, argsToLocals, Value.category]; done) | rfl
theorem pnCS : plainFor (⟨"com/example/horatius/horatius/core/OutlinePage", "checkStarted", "()V"⟩ : MethodName) = true := plainFor_of_name (by first | (simp [plainName, overriddenIn]; done) | decide +kernel)
theorem dSI_0 : Dc prog_23_method_2_code 0 (.aload_n 0) 1 1 := ⟨by decide +kernel, rfl⟩
theorem dSI_1 : Dc prog_23_method_2_code 1 (.invokespecial 1) 3 4 := ⟨by decide +kernel, rfl⟩
set_option maxRecDepth 65536 in
theorem wd17 {Z : State} {a0 : Array Value} (hw : ∀ d ∈ tables_1, d.before a0 Z = true) : (Jvm.Cond.methodLink "com/example/horatius/horatius/core/PageSummary" (1 : Nat) ({ cls := "java/lang/Object", name := "<init>", desc := "()V" } : Jvm.MethodName)).before a0 Z = true := hw _ (List.mem_of_getElem? (i := 17) rfl)
set_option maxRecDepth 65536 in
theorem wd18 {Z : State} {a0 : Array Value} (hw : ∀ d ∈ tables_1, d.before a0 Z = true) : (Jvm.Cond.instanceMethod ({ cls := "java/lang/Object", name := "<init>", desc := "()V" } : Jvm.MethodName)).before a0 Z = true := hw _ (List.mem_of_getElem? (i := 18) rfl)
set_option maxRecDepth 65536 in
theorem wd19 {Z : State} {a0 : Array Value} (hw : ∀ d ∈ tables_1, d.before a0 Z = true) : (Jvm.Cond.code ({ cls := "java/lang/Object", name := "<init>", desc := "()V" } : Jvm.MethodName) object_method_1_code (1 : Nat) (Option.none : Option Jvm.ClassFile.FieldType)).before a0 Z = true := hw _ (List.mem_of_getElem? (i := 19) rfl)
theorem dSI_4 : Dc prog_23_method_2_code 4 (.iload_n 1) 1 5 := ⟨by decide +kernel, rfl⟩
theorem dSI_5 : Dc prog_23_method_2_code 5 (.iconst 1) 1 6 := ⟨by decide +kernel, rfl⟩
theorem dSI_6 : Db prog_23_method_2_code 6 (.if_icmp .lt 23) 23 9 29 := ⟨by decide +kernel, rfl, by decide, by decide⟩
theorem dSI_9 : Dc prog_23_method_2_code 9 (.iload_n 2) 1 10 := ⟨by decide +kernel, rfl⟩
theorem dSI_10 : Db prog_23_method_2_code 10 (.ifCond .lt 19) 19 13 29 := ⟨by decide +kernel, rfl, by decide, by decide⟩
theorem dSI_13 : Dc prog_23_method_2_code 13 (.iload 4) 2 15 := ⟨by decide +kernel, rfl⟩
theorem dSI_15 : Dc prog_23_method_2_code 15 (.iload_n 2) 1 16 := ⟨by decide +kernel, rfl⟩
theorem dSI_16 : Db prog_23_method_2_code 16 (.if_icmp .lt 13) 13 19 29 := ⟨by decide +kernel, rfl, by decide, by decide⟩
theorem dSI_19 : Dc prog_23_method_2_code 19 (.iload 5) 2 21 := ⟨by decide +kernel, rfl⟩
theorem dSI_21 : Db prog_23_method_2_code 21 (.ifCond .lt 8) 8 24 29 := ⟨by decide +kernel, rfl, by decide, by decide⟩
theorem dSI_24 : Dc prog_23_method_2_code 24 (.iload 6) 2 26 := ⟨by decide +kernel, rfl⟩
theorem dSI_26 : Db prog_23_method_2_code 26 (.ifCond .ge 13) 13 29 39 := ⟨by decide +kernel, rfl, by decide, by decide⟩
theorem dSI_39 : Dc prog_23_method_2_code 39 (.iconst 0) 1 40 := ⟨by decide +kernel, rfl⟩
theorem dSI_40 : Dc prog_23_method_2_code 40 (.istore 8) 2 42 := ⟨by decide +kernel, rfl⟩
theorem dSI_42 : Dc prog_23_method_2_code 42 (.iload 8) 2 44 := ⟨by decide +kernel, rfl⟩
theorem dSI_44 : Dc prog_23_method_2_code 44 (.aload 7) 2 46 := ⟨by decide +kernel, rfl⟩
theorem dSI_46 : Dc prog_23_method_2_code 46 .arraylength 1 47 := ⟨by decide +kernel, rfl⟩
theorem dSI_47 : Db prog_23_method_2_code 47 (.if_icmp .ge 56) 56 50 103 := ⟨by decide +kernel, rfl, by decide, by decide⟩
theorem dSI_103 : Dc prog_23_method_2_code 103 (.aload_n 0) 1 104 := ⟨by decide +kernel, rfl⟩
theorem dSI_104 : Dc prog_23_method_2_code 104 (.iload_n 1) 1 105 := ⟨by decide +kernel, rfl⟩
theorem dSI_105 : Dc prog_23_method_2_code 105 (.putfield 22) 3 108 := ⟨by decide +kernel, rfl⟩
set_option maxRecDepth 65536 in
theorem wd21 {Z : State} {a0 : Array Value} (hw : ∀ d ∈ tables_1, d.before a0 Z = true) : (Jvm.Cond.lays "com/example/horatius/horatius/core/PageSummary" "com/example/horatius/horatius/core/PageSummary" "nodes" "I").before a0 Z = true := hw _ (List.mem_of_getElem? (i := 21) rfl)
set_option maxRecDepth 65536 in
theorem wd8 {Z : State} {a0 : Array Value} (hw : ∀ d ∈ tables_1, d.before a0 Z = true) : (Jvm.Cond.instantiable "com/example/horatius/horatius/core/PageSummary" (8 : Nat)).before a0 Z = true := hw _ (List.mem_of_getElem? (i := 8) rfl)
set_option maxRecDepth 65536 in
theorem wd23 {Z : State} {a0 : Array Value} (hw : ∀ d ∈ tables_1, d.before a0 Z = true) : (Jvm.Cond.lays "com/example/horatius/horatius/core/PageSummary" "com/example/horatius/horatius/core/PageSummary" "leastDepth" "I").before a0 Z = true := hw _ (List.mem_of_getElem? (i := 23) rfl)
set_option maxRecDepth 65536 in
theorem wd31 {Z : State} {a0 : Array Value} (hw : ∀ d ∈ tables_1, d.before a0 Z = true) : (Jvm.Cond.lays "com/example/horatius/horatius/core/PageSummary" "com/example/horatius/horatius/core/PageSummary" "lastKind" "Lcom/example/horatius/horatius/core/NodeKind;").before a0 Z = true := hw _ (List.mem_of_getElem? (i := 31) rfl)
set_option maxRecDepth 65536 in
theorem wd33 {Z : State} {a0 : Array Value} (hw : ∀ d ∈ tables_1, d.before a0 Z = true) : (Jvm.Cond.lays "com/example/horatius/horatius/core/PageSummary" "com/example/horatius/horatius/core/PageSummary" "lastDepth" "I").before a0 Z = true := hw _ (List.mem_of_getElem? (i := 33) rfl)
set_option maxRecDepth 65536 in
theorem wd35 {Z : State} {a0 : Array Value} (hw : ∀ d ∈ tables_1, d.before a0 Z = true) : (Jvm.Cond.lays "com/example/horatius/horatius/core/PageSummary" "com/example/horatius/horatius/core/PageSummary" "topElements" "I").before a0 Z = true := hw _ (List.mem_of_getElem? (i := 35) rfl)
set_option maxRecDepth 65536 in
theorem wd37 {Z : State} {a0 : Array Value} (hw : ∀ d ∈ tables_1, d.before a0 Z = true) : (Jvm.Cond.lays "com/example/horatius/horatius/core/PageSummary" "com/example/horatius/horatius/core/PageSummary" "typedAttributes" "I").before a0 Z = true := hw _ (List.mem_of_getElem? (i := 37) rfl)
set_option maxRecDepth 65536 in
theorem wd48 {Z : State} {a0 : Array Value} (hw : ∀ d ∈ tables_1, d.before a0 Z = true) : (Jvm.Cond.lays "com/example/horatius/horatius/core/PageSummary" "com/example/horatius/horatius/core/PageSummary" "asides" "[I").before a0 Z = true := hw _ (List.mem_of_getElem? (i := 48) rfl)
set_option maxRecDepth 65536 in
theorem wd50 {Z : State} {a0 : Array Value} (hw : ∀ d ∈ tables_1, d.before a0 Z = true) : (Jvm.Cond.lays "com/example/horatius/horatius/core/PageSummary" "com/example/horatius/horatius/core/PageSummary" "asideCount" "I").before a0 Z = true := hw _ (List.mem_of_getElem? (i := 50) rfl)
theorem dSI_108 : Dc prog_23_method_2_code 108 (.aload_n 0) 1 109 := ⟨by decide +kernel, rfl⟩
theorem dSI_109 : Dc prog_23_method_2_code 109 (.iload_n 2) 1 110 := ⟨by decide +kernel, rfl⟩
theorem dSI_110 : Dc prog_23_method_2_code 110 (.putfield 26) 3 113 := ⟨by decide +kernel, rfl⟩
set_option maxRecDepth 65536 in
theorem wd22 {Z : State} {a0 : Array Value} (hw : ∀ d ∈ tables_1, d.before a0 Z = true) : (Jvm.Cond.fieldLink "com/example/horatius/horatius/core/PageSummary" (26 : Nat) "com/example/horatius/horatius/core/PageSummary" "leastDepth" "I").before a0 Z = true := hw _ (List.mem_of_getElem? (i := 22) rfl)
theorem dSI_113 : Dc prog_23_method_2_code 113 (.aload_n 0) 1 114 := ⟨by decide +kernel, rfl⟩
theorem dSI_114 : Dc prog_23_method_2_code 114 (.aload_n 3) 1 115 := ⟨by decide +kernel, rfl⟩
theorem dSI_115 : Dc prog_23_method_2_code 115 (.invokestatic 29) 3 118 := ⟨by decide +kernel, rfl⟩
set_option maxRecDepth 65536 in
theorem wd26 {Z : State} {a0 : Array Value} (hw : ∀ d ∈ tables_1, d.before a0 Z = true) : (Jvm.Cond.initialized "java/util/Objects").before a0 Z = true := hw _ (List.mem_of_getElem? (i := 26) rfl)
theorem pd_1 : parseMethodDescriptor "(Ljava/lang/Object;)Ljava/lang/Object;" = some ⟨[(.object "java/lang/Object")], some (.object "java/lang/Object")⟩ := by decide +kernel
set_option maxRecDepth 65536 in
theorem wd24 {Z : State} {a0 : Array Value} (hw : ∀ d ∈ tables_1, d.before a0 Z = true) : (Jvm.Cond.methodLink "com/example/horatius/horatius/core/PageSummary" (29 : Nat) ({ cls := "java/util/Objects", name := "requireNonNull", desc := "(Ljava/lang/Object;)Ljava/lang/Object;" } : Jvm.MethodName)).before a0 Z = true := hw _ (List.mem_of_getElem? (i := 24) rfl)
set_option maxRecDepth 65536 in
theorem wd25 {Z : State} {a0 : Array Value} (hw : ∀ d ∈ tables_1, d.before a0 Z = true) : (Jvm.Cond.static ({ cls := "java/util/Objects", name := "requireNonNull", desc := "(Ljava/lang/Object;)Ljava/lang/Object;" } : Jvm.MethodName)).before a0 Z = true := hw _ (List.mem_of_getElem? (i := 25) rfl)
set_option maxRecDepth 65536 in
theorem wd27 {Z : State} {a0 : Array Value} (hw : ∀ d ∈ tables_1, d.before a0 Z = true) : (Jvm.Cond.code ({ cls := "java/util/Objects", name := "requireNonNull", desc := "(Ljava/lang/Object;)Ljava/lang/Object;" } : Jvm.MethodName) jdk_31_method_10_code (1 : Nat) (Option.some (Jvm.ClassFile.FieldType.object "java/lang/Object"))).before a0 Z = true := hw _ (List.mem_of_getElem? (i := 27) rfl)
theorem dSI_118 : Dc prog_23_method_2_code 118 (.checkcast 35) 3 121 := ⟨by decide +kernel, rfl⟩
set_option maxRecDepth 65536 in
theorem wd28 {Z : State} {a0 : Array Value} (hw : ∀ d ∈ tables_1, d.before a0 Z = true) : (Jvm.Cond.classLink "com/example/horatius/horatius/core/PageSummary" (35 : Nat) "com/example/horatius/horatius/core/NodeKind").before a0 Z = true := hw _ (List.mem_of_getElem? (i := 28) rfl)
theorem dSI_121 : Dc prog_23_method_2_code 121 (.putfield 37) 3 124 := ⟨by decide +kernel, rfl⟩
theorem dSI_124 : Dc prog_23_method_2_code 124 (.aload_n 0) 1 125 := ⟨by decide +kernel, rfl⟩
theorem dSI_125 : Dc prog_23_method_2_code 125 (.iload 4) 2 127 := ⟨by decide +kernel, rfl⟩
theorem dSI_127 : Dc prog_23_method_2_code 127 (.putfield 41) 3 130 := ⟨by decide +kernel, rfl⟩
theorem dSI_130 : Dc prog_23_method_2_code 130 (.aload_n 0) 1 131 := ⟨by decide +kernel, rfl⟩
theorem dSI_131 : Dc prog_23_method_2_code 131 (.iload 5) 2 133 := ⟨by decide +kernel, rfl⟩
theorem dSI_133 : Dc prog_23_method_2_code 133 (.putfield 44) 3 136 := ⟨by decide +kernel, rfl⟩
set_option maxRecDepth 65536 in
theorem wd34 {Z : State} {a0 : Array Value} (hw : ∀ d ∈ tables_1, d.before a0 Z = true) : (Jvm.Cond.fieldLink "com/example/horatius/horatius/core/PageSummary" (44 : Nat) "com/example/horatius/horatius/core/PageSummary" "topElements" "I").before a0 Z = true := hw _ (List.mem_of_getElem? (i := 34) rfl)
theorem dSI_136 : Dc prog_23_method_2_code 136 (.aload_n 0) 1 137 := ⟨by decide +kernel, rfl⟩
theorem dSI_137 : Dc prog_23_method_2_code 137 (.iload 6) 2 139 := ⟨by decide +kernel, rfl⟩
theorem dSI_139 : Dc prog_23_method_2_code 139 (.putfield 47) 3 142 := ⟨by decide +kernel, rfl⟩
set_option maxRecDepth 65536 in
theorem wd36 {Z : State} {a0 : Array Value} (hw : ∀ d ∈ tables_1, d.before a0 Z = true) : (Jvm.Cond.fieldLink "com/example/horatius/horatius/core/PageSummary" (47 : Nat) "com/example/horatius/horatius/core/PageSummary" "typedAttributes" "I").before a0 Z = true := hw _ (List.mem_of_getElem? (i := 36) rfl)
theorem dSI_142 : Dc prog_23_method_2_code 142 (.aload_n 0) 1 143 := ⟨by decide +kernel, rfl⟩
theorem dSI_143 : Dc prog_23_method_2_code 143 (.aload 7) 2 145 := ⟨by decide +kernel, rfl⟩
theorem dSI_145 : Dc prog_23_method_2_code 145 (.invokevirtual 50) 3 148 := ⟨by decide +kernel, rfl⟩
set_option maxRecDepth 65536 in
theorem wd38 {Z : State} {a0 : Array Value} (hw : ∀ d ∈ tables_1, d.before a0 Z = true) : (Jvm.Cond.methodLink "com/example/horatius/horatius/core/PageSummary" (50 : Nat) ({ cls := "[I", name := "clone", desc := "()Ljava/lang/Object;" } : Jvm.MethodName)).before a0 Z = true := hw _ (List.mem_of_getElem? (i := 38) rfl)
set_option maxRecDepth 65536 in
theorem wd39 {Z : State} {a0 : Array Value} (hw : ∀ d ∈ tables_1, d.before a0 Z = true) : (Jvm.Cond.sameMethod "[I" "java/lang/Object" "clone" "()Ljava/lang/Object;").before a0 Z = true := hw _ (List.mem_of_getElem? (i := 39) rfl)
set_option maxRecDepth 65536 in
theorem wd43 {Z : State} {a0 : Array Value} (hw : ∀ d ∈ tables_1, d.before a0 Z = true) : (Jvm.Cond.native ({ cls := "java/lang/Object", name := "clone", desc := "()Ljava/lang/Object;" } : Jvm.MethodName)).before a0 Z = true := hw _ (List.mem_of_getElem? (i := 43) rfl)
set_option maxRecDepth 65536 in
theorem wd41 {Z : State} {a0 : Array Value} (hw : ∀ d ∈ tables_1, d.before a0 Z = true) : (Jvm.Cond.instanceMethod ({ cls := "java/lang/Object", name := "clone", desc := "()Ljava/lang/Object;" } : Jvm.MethodName)).before a0 Z = true := hw _ (List.mem_of_getElem? (i := 41) rfl)
set_option maxRecDepth 65536 in
theorem wd42 {Z : State} {a0 : Array Value} (hw : ∀ d ∈ tables_1, d.before a0 Z = true) : (Jvm.Cond.selects "[I" ({ cls := "[I", name := "clone", desc := "()Ljava/lang/Object;" } : Jvm.MethodName) ({ cls := "java/lang/Object", name := "clone", desc := "()Ljava/lang/Object;" } : Jvm.MethodName)).before a0 Z = true := hw _ (List.mem_of_getElem? (i := 42) rfl)
set_option maxRecDepth 65536 in
theorem wd44 {Z : State} {a0 : Array Value} (hw : ∀ d ∈ tables_1, d.before a0 Z = true) : (Jvm.Cond.castable "[I" "java/lang/Cloneable").before a0 Z = true := hw _ (List.mem_of_getElem? (i := 44) rfl)
theorem dSI_148 : Dc prog_23_method_2_code 148 (.checkcast 51) 3 151 := ⟨by decide +kernel, rfl⟩
set_option maxRecDepth 65536 in
theorem wd45 {Z : State} {a0 : Array Value} (hw : ∀ d ∈ tables_1, d.before a0 Z = true) : (Jvm.Cond.classLink "com/example/horatius/horatius/core/PageSummary" (51 : Nat) "[I").before a0 Z = true := hw _ (List.mem_of_getElem? (i := 45) rfl)
theorem dSI_151 : Dc prog_23_method_2_code 151 (.putfield 7) 3 154 := ⟨by decide +kernel, rfl⟩
set_option maxRecDepth 65536 in
theorem wd47 {Z : State} {a0 : Array Value} (hw : ∀ d ∈ tables_1, d.before a0 Z = true) : (Jvm.Cond.fieldLink "com/example/horatius/horatius/core/PageSummary" (7 : Nat) "com/example/horatius/horatius/core/PageSummary" "asides" "[I").before a0 Z = true := hw _ (List.mem_of_getElem? (i := 47) rfl)
theorem dSI_154 : Dc prog_23_method_2_code 154 (.aload_n 0) 1 155 := ⟨by decide +kernel, rfl⟩
theorem dSI_155 : Dc prog_23_method_2_code 155 (.aload 7) 2 157 := ⟨by decide +kernel, rfl⟩
theorem dSI_157 : Dc prog_23_method_2_code 157 .arraylength 1 158 := ⟨by decide +kernel, rfl⟩
theorem dSI_158 : Dc prog_23_method_2_code 158 (.putfield 55) 3 161 := ⟨by decide +kernel, rfl⟩
set_option maxRecDepth 65536 in
theorem wd49 {Z : State} {a0 : Array Value} (hw : ∀ d ∈ tables_1, d.before a0 Z = true) : (Jvm.Cond.fieldLink "com/example/horatius/horatius/core/PageSummary" (55 : Nat) "com/example/horatius/horatius/core/PageSummary" "asideCount" "I").before a0 Z = true := hw _ (List.mem_of_getElem? (i := 49) rfl)
theorem dSI_161 : Dc prog_23_method_2_code 161 .return_ 1 162 := ⟨by decide +kernel, rfl⟩
theorem efSI (m : MethodId) (x0 : Addr) (x1 : Int32) (x2 : Int32) (x3 : Addr) (x4 : Int32) (x5 : Int32) (x6 : Int32) (x7 : Addr) : entryFrame m #[.ref x0, .int x1, .int x2, .ref x3, .int x4, .int x5, .int x6, .ref x7] 9 = mkF m 0 #[.val (.ref x0), .val (.int x1), .val (.int x2), .val (.ref x3), .val (.int x4), .val (.int x5), .val (.int x6), .val (.ref x7), .unset] [] := by first | (simp [entryFrame, mkF, argsToLocals, Value.category]; done) | rfl
theorem pnSI : plainFor (⟨"com/example/horatius/horatius/core/PageSummary", "<init>", "(IILcom/example/horatius/horatius/core/NodeKind;III[I)V"⟩ : MethodName) = true := plainFor_of_name (by first | (simp [plainName, overriddenIn]; done) | decide +kernel)
theorem dS0_0 : Dc prog_23_method_1_code 0 (.aload_n 0) 1 1 := ⟨by decide +kernel, rfl⟩
theorem dS0_1 : Dc prog_23_method_1_code 1 (.invokespecial 1) 3 4 := ⟨by decide +kernel, rfl⟩
theorem dS0_4 : Dc prog_23_method_1_code 4 (.aload_n 0) 1 5 := ⟨by decide +kernel, rfl⟩
theorem dS0_5 : Dc prog_23_method_1_code 5 (.iconst 0) 1 6 := ⟨by decide +kernel, rfl⟩
theorem dS0_6 : Dc prog_23_method_1_code 6 (.newarray .int) 2 8 := ⟨by decide +kernel, rfl⟩
set_option maxRecDepth 65536 in
theorem wd13 {Z : State} {a0 : Array Value} (hw : ∀ d ∈ tables_1, d.before a0 Z = true) : (Jvm.Cond.arrayClass Jvm.ClassFile.FieldType.int).before a0 Z = true := hw _ (List.mem_of_getElem? (i := 13) rfl)
theorem dS0_8 : Dc prog_23_method_1_code 8 (.putfield 7) 3 11 := ⟨by decide +kernel, rfl⟩
theorem dS0_11 : Dc prog_23_method_1_code 11 .return_ 1 12 := ⟨by decide +kernel, rfl⟩
theorem efS0 (m : MethodId) (x0 : Addr) : entryFrame m #[.ref x0] 1 = mkF m 0 #[.val (.ref x0)] [] := by first | (simp [entryFrame, mkF, argsToLocals, Value.category]; done) | rfl
theorem pnS0 : plainFor (⟨"com/example/horatius/horatius/core/PageSummary", "<init>", "()V"⟩ : MethodName) = true := plainFor_of_name (by first | (simp [plainName, overriddenIn]; done) | decide +kernel)
theorem dOI_0 : Dc prog_19_method_1_code 0 (.aload_n 0) 1 1 := ⟨by decide +kernel, rfl⟩
theorem dOI_1 : Dc prog_19_method_1_code 1 (.invokespecial 1) 3 4 := ⟨by decide +kernel, rfl⟩
set_option maxRecDepth 65536 in
theorem wd57 {Z : State} {a0 : Array Value} (hw : ∀ d ∈ tables_1, d.before a0 Z = true) : (Jvm.Cond.methodLink "com/example/horatius/horatius/core/OutlinePage" (1 : Nat) ({ cls := "java/lang/Object", name := "<init>", desc := "()V" } : Jvm.MethodName)).before a0 Z = true := hw _ (List.mem_of_getElem? (i := 57) rfl)
theorem dOI_4 : Dc prog_19_method_1_code 4 (.aload_n 0) 1 5 := ⟨by decide +kernel, rfl⟩
theorem dOI_5 : Dc prog_19_method_1_code 5 (.new 7) 3 8 := ⟨by decide +kernel, rfl⟩
set_option maxRecDepth 65536 in
theorem wd58 {Z : State} {a0 : Array Value} (hw : ∀ d ∈ tables_1, d.before a0 Z = true) : (Jvm.Cond.classLink "com/example/horatius/horatius/core/OutlinePage" (7 : Nat) "com/example/horatius/horatius/core/PageSummary").before a0 Z = true := hw _ (List.mem_of_getElem? (i := 58) rfl)
set_option maxRecDepth 65536 in
theorem wd9 {Z : State} {a0 : Array Value} (hw : ∀ d ∈ tables_1, d.before a0 Z = true) : (Jvm.Cond.initialized "com/example/horatius/horatius/core/PageSummary").before a0 Z = true := hw _ (List.mem_of_getElem? (i := 9) rfl)
theorem dOI_8 : Dc prog_19_method_1_code 8 .dup 1 9 := ⟨by decide +kernel, rfl⟩
theorem dOI_9 : Dc prog_19_method_1_code 9 (.invokespecial 9) 3 12 := ⟨by decide +kernel, rfl⟩
theorem pd_2 : parseMethodDescriptor "()V" = some ⟨[], none⟩ := by decide +kernel
set_option maxRecDepth 65536 in
theorem wd59 {Z : State} {a0 : Array Value} (hw : ∀ d ∈ tables_1, d.before a0 Z = true) : (Jvm.Cond.methodLink "com/example/horatius/horatius/core/OutlinePage" (9 : Nat) ({ cls := "com/example/horatius/horatius/core/PageSummary", name := "<init>", desc := "()V" } : Jvm.MethodName)).before a0 Z = true := hw _ (List.mem_of_getElem? (i := 59) rfl)
set_option maxRecDepth 65536 in
theorem wd60 {Z : State} {a0 : Array Value} (hw : ∀ d ∈ tables_1, d.before a0 Z = true) : (Jvm.Cond.instanceMethod ({ cls := "com/example/horatius/horatius/core/PageSummary", name := "<init>", desc := "()V" } : Jvm.MethodName)).before a0 Z = true := hw _ (List.mem_of_getElem? (i := 60) rfl)
set_option maxRecDepth 65536 in
theorem wd61 {Z : State} {a0 : Array Value} (hw : ∀ d ∈ tables_1, d.before a0 Z = true) : (Jvm.Cond.code ({ cls := "com/example/horatius/horatius/core/PageSummary", name := "<init>", desc := "()V" } : Jvm.MethodName) prog_23_method_1_code (1 : Nat) (Option.none : Option Jvm.ClassFile.FieldType)).before a0 Z = true := hw _ (List.mem_of_getElem? (i := 61) rfl)
theorem dOI_12 : Dc prog_19_method_1_code 12 (.putfield 10) 3 15 := ⟨by decide +kernel, rfl⟩
set_option maxRecDepth 65536 in
theorem wd63 {Z : State} {a0 : Array Value} (hw : ∀ d ∈ tables_1, d.before a0 Z = true) : (Jvm.Cond.laysFinal "com/example/horatius/horatius/core/OutlinePage" "com/example/horatius/horatius/core/OutlinePage" "gathered" "Lcom/example/horatius/horatius/core/PageSummary;").before a0 Z = true := hw _ (List.mem_of_getElem? (i := 63) rfl)
set_option maxRecDepth 65536 in
theorem wd62 {Z : State} {a0 : Array Value} (hw : ∀ d ∈ tables_1, d.before a0 Z = true) : (Jvm.Cond.fieldLink "com/example/horatius/horatius/core/OutlinePage" (10 : Nat) "com/example/horatius/horatius/core/OutlinePage" "gathered" "Lcom/example/horatius/horatius/core/PageSummary;").before a0 Z = true := hw _ (List.mem_of_getElem? (i := 62) rfl)
set_option maxRecDepth 65536 in
theorem wd52 {Z : State} {a0 : Array Value} (hw : ∀ d ∈ tables_1, d.before a0 Z = true) : (Jvm.Cond.instantiable "com/example/horatius/horatius/core/OutlinePage" (19 : Nat)).before a0 Z = true := hw _ (List.mem_of_getElem? (i := 52) rfl)
set_option maxRecDepth 65536 in
theorem wd69 {Z : State} {a0 : Array Value} (hw : ∀ d ∈ tables_1, d.before a0 Z = true) : (Jvm.Cond.laysFinal "com/example/horatius/horatius/core/OutlinePage" "com/example/horatius/horatius/core/OutlinePage" "start" "I").before a0 Z = true := hw _ (List.mem_of_getElem? (i := 69) rfl)
set_option maxRecDepth 65536 in
theorem wd71 {Z : State} {a0 : Array Value} (hw : ∀ d ∈ tables_1, d.before a0 Z = true) : (Jvm.Cond.laysFinal "com/example/horatius/horatius/core/OutlinePage" "com/example/horatius/horatius/core/OutlinePage" "summary" "Lcom/example/horatius/horatius/core/PageSummary;").before a0 Z = true := hw _ (List.mem_of_getElem? (i := 71) rfl)
set_option maxRecDepth 65536 in
theorem wd73 {Z : State} {a0 : Array Value} (hw : ∀ d ∈ tables_1, d.before a0 Z = true) : (Jvm.Cond.laysFinal "com/example/horatius/horatius/core/OutlinePage" "com/example/horatius/horatius/core/OutlinePage" "nameCount" "I").before a0 Z = true := hw _ (List.mem_of_getElem? (i := 73) rfl)
set_option maxRecDepth 65536 in
theorem wd98 {Z : State} {a0 : Array Value} (hw : ∀ d ∈ tables_1, d.before a0 Z = true) : (Jvm.Cond.laysFinal "com/example/horatius/horatius/core/OutlinePage" "com/example/horatius/horatius/core/OutlinePage" "kinds" "[B").before a0 Z = true := hw _ (List.mem_of_getElem? (i := 98) rfl)
set_option maxRecDepth 65536 in
theorem wd100 {Z : State} {a0 : Array Value} (hw : ∀ d ∈ tables_1, d.before a0 Z = true) : (Jvm.Cond.laysFinal "com/example/horatius/horatius/core/OutlinePage" "com/example/horatius/horatius/core/OutlinePage" "names" "[I").before a0 Z = true := hw _ (List.mem_of_getElem? (i := 100) rfl)
set_option maxRecDepth 65536 in
theorem wd102 {Z : State} {a0 : Array Value} (hw : ∀ d ∈ tables_1, d.before a0 Z = true) : (Jvm.Cond.laysFinal "com/example/horatius/horatius/core/OutlinePage" "com/example/horatius/horatius/core/OutlinePage" "depths" "[I").before a0 Z = true := hw _ (List.mem_of_getElem? (i := 102) rfl)
set_option maxRecDepth 65536 in
theorem wd104 {Z : State} {a0 : Array Value} (hw : ∀ d ∈ tables_1, d.before a0 Z = true) : (Jvm.Cond.laysFinal "com/example/horatius/horatius/core/OutlinePage" "com/example/horatius/horatius/core/OutlinePage" "parents" "[I").before a0 Z = true := hw _ (List.mem_of_getElem? (i := 104) rfl)
set_option maxRecDepth 65536 in
theorem wd106 {Z : State} {a0 : Array Value} (hw : ∀ d ∈ tables_1, d.before a0 Z = true) : (Jvm.Cond.laysFinal "com/example/horatius/horatius/core/OutlinePage" "com/example/horatius/horatius/core/OutlinePage" "subtreeEnds" "[I").before a0 Z = true := hw _ (List.mem_of_getElem? (i := 106) rfl)
set_option maxRecDepth 65536 in
theorem wd121 {Z : State} {a0 : Array Value} (hw : ∀ d ∈ tables_1, d.before a0 Z = true) : (Jvm.Cond.lays "com/example/horatius/horatius/core/OutlinePage" "com/example/horatius/horatius/core/OutlinePage" "size" "I").before a0 Z = true := hw _ (List.mem_of_getElem? (i := 121) rfl)
set_option maxRecDepth 65536 in
theorem wd80 {Z : State} {a0 : Array Value} (hw : ∀ d ∈ tables_1, d.before a0 Z = true) : (Jvm.Cond.lays "com/example/horatius/horatius/core/OutlinePage" "com/example/horatius/horatius/core/OutlinePage" "previousKind" "Lcom/example/horatius/horatius/core/NodeKind;").before a0 Z = true := hw _ (List.mem_of_getElem? (i := 80) rfl)
set_option maxRecDepth 65536 in
theorem wd87 {Z : State} {a0 : Array Value} (hw : ∀ d ∈ tables_1, d.before a0 Z = true) : (Jvm.Cond.lays "com/example/horatius/horatius/core/OutlinePage" "com/example/horatius/horatius/core/OutlinePage" "previousDepth" "I").before a0 Z = true := hw _ (List.mem_of_getElem? (i := 87) rfl)
set_option maxRecDepth 65536 in
theorem wd90 {Z : State} {a0 : Array Value} (hw : ∀ d ∈ tables_1, d.before a0 Z = true) : (Jvm.Cond.lays "com/example/horatius/horatius/core/OutlinePage" "com/example/horatius/horatius/core/OutlinePage" "openBefore" "I").before a0 Z = true := hw _ (List.mem_of_getElem? (i := 90) rfl)
set_option maxRecDepth 65536 in
theorem wd65 {Z : State} {a0 : Array Value} (hw : ∀ d ∈ tables_1, d.before a0 Z = true) : (Jvm.Cond.lays "com/example/horatius/horatius/core/OutlinePage" "com/example/horatius/horatius/core/OutlinePage" "open" "[I").before a0 Z = true := hw _ (List.mem_of_getElem? (i := 65) rfl)
set_option maxRecDepth 65536 in
theorem wd123 {Z : State} {a0 : Array Value} (hw : ∀ d ∈ tables_1, d.before a0 Z = true) : (Jvm.Cond.lays "com/example/horatius/horatius/core/OutlinePage" "com/example/horatius/horatius/core/OutlinePage" "openCount" "I").before a0 Z = true := hw _ (List.mem_of_getElem? (i := 123) rfl)
set_option maxRecDepth 65536 in
theorem wd208 {Z : State} {a0 : Array Value} (hw : ∀ d ∈ tables_1, d.before a0 Z = true) : (Jvm.Cond.lays "com/example/horatius/horatius/core/OutlinePage" "com/example/horatius/horatius/core/OutlinePage" "shallowestFromStart" "[I").before a0 Z = true := hw _ (List.mem_of_getElem? (i := 208) rfl)
set_option maxRecDepth 65536 in
theorem wd210 {Z : State} {a0 : Array Value} (hw : ∀ d ∈ tables_1, d.before a0 Z = true) : (Jvm.Cond.lays "com/example/horatius/horatius/core/OutlinePage" "com/example/horatius/horatius/core/OutlinePage" "shallowestToEnd" "[I").before a0 Z = true := hw _ (List.mem_of_getElem? (i := 210) rfl)
set_option maxRecDepth 65536 in
theorem wd142 {Z : State} {a0 : Array Value} (hw : ∀ d ∈ tables_1, d.before a0 Z = true) : (Jvm.Cond.lays "com/example/horatius/horatius/core/OutlinePage" "com/example/horatius/horatius/core/OutlinePage" "ended" "Z").before a0 Z = true := hw _ (List.mem_of_getElem? (i := 142) rfl)
set_option maxRecDepth 65536 in
theorem wd67 {Z : State} {a0 : Array Value} (hw : ∀ d ∈ tables_1, d.before a0 Z = true) : (Jvm.Cond.laysFinal "com/example/horatius/horatius/core/OutlinePage" "com/example/horatius/horatius/core/OutlinePage" "index" "I").before a0 Z = true := hw _ (List.mem_of_getElem? (i := 67) rfl)
theorem dOI_15 : Dc prog_19_method_1_code 15 (.aload_n 0) 1 16 := ⟨by decide +kernel, rfl⟩
theorem dOI_16 : Dc prog_19_method_1_code 16 (.bipush 16) 2 18 := ⟨by decide +kernel, rfl⟩
theorem dOI_18 : Dc prog_19_method_1_code 18 (.newarray .int) 2 20 := ⟨by decide +kernel, rfl⟩
theorem dOI_20 : Dc prog_19_method_1_code 20 (.putfield 16) 3 23 := ⟨by decide +kernel, rfl⟩
set_option maxRecDepth 65536 in
theorem wd64 {Z : State} {a0 : Array Value} (hw : ∀ d ∈ tables_1, d.before a0 Z = true) : (Jvm.Cond.fieldLink "com/example/horatius/horatius/core/OutlinePage" (16 : Nat) "com/example/horatius/horatius/core/OutlinePage" "open" "[I").before a0 Z = true := hw _ (List.mem_of_getElem? (i := 64) rfl)
theorem dOI_23 : Dc prog_19_method_1_code 23 (.aload_n 0) 1 24 := ⟨by decide +kernel, rfl⟩
theorem dOI_24 : Dc prog_19_method_1_code 24 (.iload_n 1) 1 25 := ⟨by decide +kernel, rfl⟩
theorem dOI_25 : Dc prog_19_method_1_code 25 (.putfield 20) 3 28 := ⟨by decide +kernel, rfl⟩
set_option maxRecDepth 65536 in
theorem wd66 {Z : State} {a0 : Array Value} (hw : ∀ d ∈ tables_1, d.before a0 Z = true) : (Jvm.Cond.fieldLink "com/example/horatius/horatius/core/OutlinePage" (20 : Nat) "com/example/horatius/horatius/core/OutlinePage" "index" "I").before a0 Z = true := hw _ (List.mem_of_getElem? (i := 66) rfl)
theorem dOI_28 : Dc prog_19_method_1_code 28 (.aload_n 0) 1 29 := ⟨by decide +kernel, rfl⟩
theorem dOI_29 : Dc prog_19_method_1_code 29 (.iload_n 2) 1 30 := ⟨by decide +kernel, rfl⟩
theorem dOI_30 : Dc prog_19_method_1_code 30 (.putfield 24) 3 33 := ⟨by decide +kernel, rfl⟩
theorem dOI_33 : Dc prog_19_method_1_code 33 (.aload_n 0) 1 34 := ⟨by decide +kernel, rfl⟩
theorem dOI_34 : Dc prog_19_method_1_code 34 (.aload_n 3) 1 35 := ⟨by decide +kernel, rfl⟩
theorem dOI_35 : Dc prog_19_method_1_code 35 (.putfield 27) 3 38 := ⟨by decide +kernel, rfl⟩
set_option maxRecDepth 65536 in
theorem wd70 {Z : State} {a0 : Array Value} (hw : ∀ d ∈ tables_1, d.before a0 Z = true) : (Jvm.Cond.fieldLink "com/example/horatius/horatius/core/OutlinePage" (27 : Nat) "com/example/horatius/horatius/core/OutlinePage" "summary" "Lcom/example/horatius/horatius/core/PageSummary;").before a0 Z = true := hw _ (List.mem_of_getElem? (i := 70) rfl)
theorem dOI_38 : Dc prog_19_method_1_code 38 (.aload_n 0) 1 39 := ⟨by decide +kernel, rfl⟩
theorem dOI_39 : Dc prog_19_method_1_code 39 (.iload 5) 2 41 := ⟨by decide +kernel, rfl⟩
theorem dOI_41 : Dc prog_19_method_1_code 41 (.putfield 30) 3 44 := ⟨by decide +kernel, rfl⟩
theorem dOI_44 : Dc prog_19_method_1_code 44 (.aload_n 0) 1 45 := ⟨by decide +kernel, rfl⟩
theorem dOI_45 : Dc prog_19_method_1_code 45 (.aload 4) 2 47 := ⟨by decide +kernel, rfl⟩
theorem dOI_47 : Db prog_19_method_1_code 47 (.ifnonnull 7) 7 50 54 := ⟨by decide +kernel, rfl, by decide, by decide⟩
theorem dOI_54 : Dc prog_19_method_1_code 54 (.aload 4) 2 56 := ⟨by decide +kernel, rfl⟩
theorem dOI_56 : Dc prog_19_method_1_code 56 (.invokevirtual 33) 3 59 := ⟨by decide +kernel, rfl⟩
theorem pd_3 : parseMethodDescriptor "()Lcom/example/horatius/horatius/core/NodeKind;" = some ⟨[], some (.object "com/example/horatius/horatius/core/NodeKind")⟩ := by decide +kernel
set_option maxRecDepth 65536 in
theorem wd74 {Z : State} {a0 : Array Value} (hw : ∀ d ∈ tables_1, d.before a0 Z = true) : (Jvm.Cond.methodLink "com/example/horatius/horatius/core/OutlinePage" (33 : Nat) ({ cls := "com/example/horatius/horatius/core/PageSummary", name := "lastKind", desc := "()Lcom/example/horatius/horatius/core/NodeKind;" } : Jvm.MethodName)).before a0 Z = true := hw _ (List.mem_of_getElem? (i := 74) rfl)
set_option maxRecDepth 65536 in
theorem wd75 {Z : State} {a0 : Array Value} (hw : ∀ d ∈ tables_1, d.before a0 Z = true) : (Jvm.Cond.declares ({ cls := "com/example/horatius/horatius/core/PageSummary", name := "lastKind", desc := "()Lcom/example/horatius/horatius/core/NodeKind;" } : Jvm.MethodName)).before a0 Z = true := hw _ (List.mem_of_getElem? (i := 75) rfl)
set_option maxRecDepth 65536 in
theorem wd77 {Z : State} {a0 : Array Value} (hw : ∀ d ∈ tables_1, d.before a0 Z = true) : (Jvm.Cond.selects "com/example/horatius/horatius/core/PageSummary" ({ cls := "com/example/horatius/horatius/core/PageSummary", name := "lastKind", desc := "()Lcom/example/horatius/horatius/core/NodeKind;" } : Jvm.MethodName) ({ cls := "com/example/horatius/horatius/core/PageSummary", name := "lastKind", desc := "()Lcom/example/horatius/horatius/core/NodeKind;" } : Jvm.MethodName)).before a0 Z = true := hw _ (List.mem_of_getElem? (i := 77) rfl)
set_option maxRecDepth 65536 in
theorem wd76 {Z : State} {a0 : Array Value} (hw : ∀ d ∈ tables_1, d.before a0 Z = true) : (Jvm.Cond.instanceMethod ({ cls := "com/example/horatius/horatius/core/PageSummary", name := "lastKind", desc := "()Lcom/example/horatius/horatius/core/NodeKind;" } : Jvm.MethodName)).before a0 Z = true := hw _ (List.mem_of_getElem? (i := 76) rfl)
set_option maxRecDepth 65536 in
theorem wd78 {Z : State} {a0 : Array Value} (hw : ∀ d ∈ tables_1, d.before a0 Z = true) : (Jvm.Cond.code ({ cls := "com/example/horatius/horatius/core/PageSummary", name := "lastKind", desc := "()Lcom/example/horatius/horatius/core/NodeKind;" } : Jvm.MethodName) prog_23_method_6_code (1 : Nat) (Option.some (Jvm.ClassFile.FieldType.object "com/example/horatius/horatius/core/NodeKind"))).before a0 Z = true := hw _ (List.mem_of_getElem? (i := 78) rfl)
theorem dOI_59 : Dc prog_19_method_1_code 59 (.putfield 37) 3 62 := ⟨by decide +kernel, rfl⟩
set_option maxRecDepth 65536 in
theorem wd79 {Z : State} {a0 : Array Value} (hw : ∀ d ∈ tables_1, d.before a0 Z = true) : (Jvm.Cond.fieldLink "com/example/horatius/horatius/core/OutlinePage" (37 : Nat) "com/example/horatius/horatius/core/OutlinePage" "previousKind" "Lcom/example/horatius/horatius/core/NodeKind;").before a0 Z = true := hw _ (List.mem_of_getElem? (i := 79) rfl)
theorem dOI_62 : Dc prog_19_method_1_code 62 (.aload_n 0) 1 63 := ⟨by decide +kernel, rfl⟩
theorem dOI_63 : Dc prog_19_method_1_code 63 (.aload 4) 2 65 := ⟨by decide +kernel, rfl⟩
theorem dOI_65 : Db prog_19_method_1_code 65 (.ifnonnull 7) 7 68 72 := ⟨by decide +kernel, rfl, by decide, by decide⟩
theorem dOI_72 : Dc prog_19_method_1_code 72 (.aload 4) 2 74 := ⟨by decide +kernel, rfl⟩
theorem dOI_74 : Dc prog_19_method_1_code 74 (.invokevirtual 41) 3 77 := ⟨by decide +kernel, rfl⟩
theorem pd_4 : parseMethodDescriptor "()I" = some ⟨[], some .int⟩ := by decide +kernel
set_option maxRecDepth 65536 in
theorem wd81 {Z : State} {a0 : Array Value} (hw : ∀ d ∈ tables_1, d.before a0 Z = true) : (Jvm.Cond.methodLink "com/example/horatius/horatius/core/OutlinePage" (41 : Nat) ({ cls := "com/example/horatius/horatius/core/PageSummary", name := "lastDepth", desc := "()I" } : Jvm.MethodName)).before a0 Z = true := hw _ (List.mem_of_getElem? (i := 81) rfl)
set_option maxRecDepth 65536 in
theorem wd82 {Z : State} {a0 : Array Value} (hw : ∀ d ∈ tables_1, d.before a0 Z = true) : (Jvm.Cond.declares ({ cls := "com/example/horatius/horatius/core/PageSummary", name := "lastDepth", desc := "()I" } : Jvm.MethodName)).before a0 Z = true := hw _ (List.mem_of_getElem? (i := 82) rfl)
set_option maxRecDepth 65536 in
theorem wd84 {Z : State} {a0 : Array Value} (hw : ∀ d ∈ tables_1, d.before a0 Z = true) : (Jvm.Cond.selects "com/example/horatius/horatius/core/PageSummary" ({ cls := "com/example/horatius/horatius/core/PageSummary", name := "lastDepth", desc := "()I" } : Jvm.MethodName) ({ cls := "com/example/horatius/horatius/core/PageSummary", name := "lastDepth", desc := "()I" } : Jvm.MethodName)).before a0 Z = true := hw _ (List.mem_of_getElem? (i := 84) rfl)
set_option maxRecDepth 65536 in
theorem wd83 {Z : State} {a0 : Array Value} (hw : ∀ d ∈ tables_1, d.before a0 Z = true) : (Jvm.Cond.instanceMethod ({ cls := "com/example/horatius/horatius/core/PageSummary", name := "lastDepth", desc := "()I" } : Jvm.MethodName)).before a0 Z = true := hw _ (List.mem_of_getElem? (i := 83) rfl)
set_option maxRecDepth 65536 in
theorem wd85 {Z : State} {a0 : Array Value} (hw : ∀ d ∈ tables_1, d.before a0 Z = true) : (Jvm.Cond.code ({ cls := "com/example/horatius/horatius/core/PageSummary", name := "lastDepth", desc := "()I" } : Jvm.MethodName) prog_23_method_7_code (1 : Nat) (Option.some Jvm.ClassFile.FieldType.int)).before a0 Z = true := hw _ (List.mem_of_getElem? (i := 85) rfl)
theorem dOI_77 : Dc prog_19_method_1_code 77 (.putfield 45) 3 80 := ⟨by decide +kernel, rfl⟩
set_option maxRecDepth 65536 in
theorem wd86 {Z : State} {a0 : Array Value} (hw : ∀ d ∈ tables_1, d.before a0 Z = true) : (Jvm.Cond.fieldLink "com/example/horatius/horatius/core/OutlinePage" (45 : Nat) "com/example/horatius/horatius/core/OutlinePage" "previousDepth" "I").before a0 Z = true := hw _ (List.mem_of_getElem? (i := 86) rfl)
theorem dOI_80 : Dc prog_19_method_1_code 80 (.aload_n 0) 1 81 := ⟨by decide +kernel, rfl⟩
theorem dOI_81 : Dc prog_19_method_1_code 81 (.getfield 37) 3 84 := ⟨by decide +kernel, rfl⟩
theorem dOI_84 : Dc prog_19_method_1_code 84 (.getstatic 48) 3 87 := ⟨by decide +kernel, rfl⟩
set_option maxRecDepth 65536 in
theorem wd88 {Z : State} {a0 : Array Value} (hw : ∀ d ∈ tables_1, d.before a0 Z = true) : (Jvm.Cond.fieldLink "com/example/horatius/horatius/core/OutlinePage" (48 : Nat) "com/example/horatius/horatius/core/NodeKind" "ELEMENT" "Lcom/example/horatius/horatius/core/NodeKind;").before a0 Z = true := hw _ (List.mem_of_getElem? (i := 88) rfl)
theorem dOI_87 : Db prog_19_method_1_code 87 (.if_acmp .eq 13) 13 90 100 := ⟨by decide +kernel, rfl, by decide, by decide⟩
theorem dOI_100 : Dc prog_19_method_1_code 100 (.iconst 1) 1 101 := ⟨by decide +kernel, rfl⟩
theorem dOI_101 : Db prog_19_method_1_code 101 (.goto 4) 4 104 105 := ⟨by decide +kernel, rfl, by decide, by decide⟩
theorem dOI_105 : Dc prog_19_method_1_code 105 (.istore 6) 2 107 := ⟨by decide +kernel, rfl⟩
theorem dOI_107 : Dc prog_19_method_1_code 107 (.aload_n 0) 1 108 := ⟨by decide +kernel, rfl⟩
theorem dOI_108 : Dc prog_19_method_1_code 108 (.aload 4) 2 110 := ⟨by decide +kernel, rfl⟩
theorem dOI_110 : Db prog_19_method_1_code 110 (.ifnonnull 7) 7 113 117 := ⟨by decide +kernel, rfl, by decide, by decide⟩
theorem dOI_117 : Dc prog_19_method_1_code 117 (.aload_n 0) 1 118 := ⟨by decide +kernel, rfl⟩
theorem dOI_118 : Dc prog_19_method_1_code 118 (.getfield 45) 3 121 := ⟨by decide +kernel, rfl⟩
theorem dOI_121 : Dc prog_19_method_1_code 121 (.iload 6) 2 123 := ⟨by decide +kernel, rfl⟩
theorem dOI_123 : Db prog_19_method_1_code 123 (.ifCond .eq 7) 7 126 130 := ⟨by decide +kernel, rfl, by decide, by decide⟩
theorem dOI_126 : Dc prog_19_method_1_code 126 (.iconst 1) 1 127 := ⟨by decide +kernel, rfl⟩
theorem dOI_127 : Db prog_19_method_1_code 127 (.goto 4) 4 130 131 := ⟨by decide +kernel, rfl, by decide, by decide⟩
theorem dOI_131 : Dc prog_19_method_1_code 131 .iadd 1 132 := ⟨by decide +kernel, rfl⟩
theorem dOI_132 : Dc prog_19_method_1_code 132 (.putfield 56) 3 135 := ⟨by decide +kernel, rfl⟩
set_option maxRecDepth 65536 in
theorem wd89 {Z : State} {a0 : Array Value} (hw : ∀ d ∈ tables_1, d.before a0 Z = true) : (Jvm.Cond.fieldLink "com/example/horatius/horatius/core/OutlinePage" (56 : Nat) "com/example/horatius/horatius/core/OutlinePage" "openBefore" "I").before a0 Z = true := hw _ (List.mem_of_getElem? (i := 89) rfl)
theorem dOI_135 : Dc prog_19_method_1_code 135 (.aload_n 3) 1 136 := ⟨by decide +kernel, rfl⟩
theorem dOI_136 : Dc prog_19_method_1_code 136 (.invokevirtual 59) 3 139 := ⟨by decide +kernel, rfl⟩
set_option maxRecDepth 65536 in
theorem wd91 {Z : State} {a0 : Array Value} (hw : ∀ d ∈ tables_1, d.before a0 Z = true) : (Jvm.Cond.methodLink "com/example/horatius/horatius/core/OutlinePage" (59 : Nat) ({ cls := "com/example/horatius/horatius/core/PageSummary", name := "nodes", desc := "()I" } : Jvm.MethodName)).before a0 Z = true := hw _ (List.mem_of_getElem? (i := 91) rfl)
set_option maxRecDepth 65536 in
theorem wd92 {Z : State} {a0 : Array Value} (hw : ∀ d ∈ tables_1, d.before a0 Z = true) : (Jvm.Cond.declares ({ cls := "com/example/horatius/horatius/core/PageSummary", name := "nodes", desc := "()I" } : Jvm.MethodName)).before a0 Z = true := hw _ (List.mem_of_getElem? (i := 92) rfl)
set_option maxRecDepth 65536 in
theorem wd94 {Z : State} {a0 : Array Value} (hw : ∀ d ∈ tables_1, d.before a0 Z = true) : (Jvm.Cond.selects "com/example/horatius/horatius/core/PageSummary" ({ cls := "com/example/horatius/horatius/core/PageSummary", name := "nodes", desc := "()I" } : Jvm.MethodName) ({ cls := "com/example/horatius/horatius/core/PageSummary", name := "nodes", desc := "()I" } : Jvm.MethodName)).before a0 Z = true := hw _ (List.mem_of_getElem? (i := 94) rfl)
set_option maxRecDepth 65536 in
theorem wd93 {Z : State} {a0 : Array Value} (hw : ∀ d ∈ tables_1, d.before a0 Z = true) : (Jvm.Cond.instanceMethod ({ cls := "com/example/horatius/horatius/core/PageSummary", name := "nodes", desc := "()I" } : Jvm.MethodName)).before a0 Z = true := hw _ (List.mem_of_getElem? (i := 93) rfl)
set_option maxRecDepth 65536 in
theorem wd95 {Z : State} {a0 : Array Value} (hw : ∀ d ∈ tables_1, d.before a0 Z = true) : (Jvm.Cond.code ({ cls := "com/example/horatius/horatius/core/PageSummary", name := "nodes", desc := "()I" } : Jvm.MethodName) prog_23_method_4_code (1 : Nat) (Option.some Jvm.ClassFile.FieldType.int)).before a0 Z = true := hw _ (List.mem_of_getElem? (i := 95) rfl)
theorem dOI_139 : Dc prog_19_method_1_code 139 (.istore 7) 2 141 := ⟨by decide +kernel, rfl⟩
theorem dOI_141 : Dc prog_19_method_1_code 141 (.aload_n 0) 1 142 := ⟨by decide +kernel, rfl⟩
theorem dOI_142 : Dc prog_19_method_1_code 142 (.iload 7) 2 144 := ⟨by decide +kernel, rfl⟩
theorem dOI_144 : Dc prog_19_method_1_code 144 (.newarray .byte) 2 146 := ⟨by decide +kernel, rfl⟩
set_option maxRecDepth 65536 in
theorem wd96 {Z : State} {a0 : Array Value} (hw : ∀ d ∈ tables_1, d.before a0 Z = true) : (Jvm.Cond.arrayClass Jvm.ClassFile.FieldType.byte).before a0 Z = true := hw _ (List.mem_of_getElem? (i := 96) rfl)
theorem dOI_146 : Dc prog_19_method_1_code 146 (.putfield 62) 3 149 := ⟨by decide +kernel, rfl⟩
set_option maxRecDepth 65536 in
theorem wd97 {Z : State} {a0 : Array Value} (hw : ∀ d ∈ tables_1, d.before a0 Z = true) : (Jvm.Cond.fieldLink "com/example/horatius/horatius/core/OutlinePage" (62 : Nat) "com/example/horatius/horatius/core/OutlinePage" "kinds" "[B").before a0 Z = true := hw _ (List.mem_of_getElem? (i := 97) rfl)
theorem dOI_149 : Dc prog_19_method_1_code 149 (.aload_n 0) 1 150 := ⟨by decide +kernel, rfl⟩
theorem dOI_150 : Dc prog_19_method_1_code 150 (.iload 7) 2 152 := ⟨by decide +kernel, rfl⟩
theorem dOI_152 : Dc prog_19_method_1_code 152 (.newarray .int) 2 154 := ⟨by decide +kernel, rfl⟩
theorem dOI_154 : Dc prog_19_method_1_code 154 (.putfield 66) 3 157 := ⟨by decide +kernel, rfl⟩
set_option maxRecDepth 65536 in
theorem wd99 {Z : State} {a0 : Array Value} (hw : ∀ d ∈ tables_1, d.before a0 Z = true) : (Jvm.Cond.fieldLink "com/example/horatius/horatius/core/OutlinePage" (66 : Nat) "com/example/horatius/horatius/core/OutlinePage" "names" "[I").before a0 Z = true := hw _ (List.mem_of_getElem? (i := 99) rfl)
theorem dOI_157 : Dc prog_19_method_1_code 157 (.aload_n 0) 1 158 := ⟨by decide +kernel, rfl⟩
theorem dOI_158 : Dc prog_19_method_1_code 158 (.iload 7) 2 160 := ⟨by decide +kernel, rfl⟩
theorem dOI_160 : Dc prog_19_method_1_code 160 (.newarray .int) 2 162 := ⟨by decide +kernel, rfl⟩
theorem dOI_162 : Dc prog_19_method_1_code 162 (.putfield 69) 3 165 := ⟨by decide +kernel, rfl⟩
set_option maxRecDepth 65536 in
theorem wd101 {Z : State} {a0 : Array Value} (hw : ∀ d ∈ tables_1, d.before a0 Z = true) : (Jvm.Cond.fieldLink "com/example/horatius/horatius/core/OutlinePage" (69 : Nat) "com/example/horatius/horatius/core/OutlinePage" "depths" "[I").before a0 Z = true := hw _ (List.mem_of_getElem? (i := 101) rfl)
theorem dOI_165 : Dc prog_19_method_1_code 165 (.aload_n 0) 1 166 := ⟨by decide +kernel, rfl⟩
theorem dOI_166 : Dc prog_19_method_1_code 166 (.iload 7) 2 168 := ⟨by decide +kernel, rfl⟩
theorem dOI_168 : Dc prog_19_method_1_code 168 (.newarray .int) 2 170 := ⟨by decide +kernel, rfl⟩
theorem dOI_170 : Dc prog_19_method_1_code 170 (.putfield 72) 3 173 := ⟨by decide +kernel, rfl⟩
set_option maxRecDepth 65536 in
theorem wd103 {Z : State} {a0 : Array Value} (hw : ∀ d ∈ tables_1, d.before a0 Z = true) : (Jvm.Cond.fieldLink "com/example/horatius/horatius/core/OutlinePage" (72 : Nat) "com/example/horatius/horatius/core/OutlinePage" "parents" "[I").before a0 Z = true := hw _ (List.mem_of_getElem? (i := 103) rfl)
theorem dOI_173 : Dc prog_19_method_1_code 173 (.aload_n 0) 1 174 := ⟨by decide +kernel, rfl⟩
theorem dOI_174 : Dc prog_19_method_1_code 174 (.iload 7) 2 176 := ⟨by decide +kernel, rfl⟩
theorem dOI_176 : Dc prog_19_method_1_code 176 (.newarray .int) 2 178 := ⟨by decide +kernel, rfl⟩
theorem dOI_178 : Dc prog_19_method_1_code 178 (.putfield 75) 3 181 := ⟨by decide +kernel, rfl⟩
set_option maxRecDepth 65536 in
theorem wd105 {Z : State} {a0 : Array Value} (hw : ∀ d ∈ tables_1, d.before a0 Z = true) : (Jvm.Cond.fieldLink "com/example/horatius/horatius/core/OutlinePage" (75 : Nat) "com/example/horatius/horatius/core/OutlinePage" "subtreeEnds" "[I").before a0 Z = true := hw _ (List.mem_of_getElem? (i := 105) rfl)
theorem dOI_181 : Dc prog_19_method_1_code 181 .return_ 1 182 := ⟨by decide +kernel, rfl⟩
theorem efOI (m : MethodId) (x0 : Addr) (x1 : Int32) (x2 : Int32) (x3 : Addr) (x4 : Addr) (x5 : Int32) : entryFrame m #[.ref x0, .int x1, .int x2, .ref x3, .ref x4, .int x5] 8 = mkF m 0 #[.val (.ref x0), .val (.int x1), .val (.int x2), .val (.ref x3), .val (.ref x4), .val (.int x5), .unset, .unset] [] := by first | (simp [entryFrame, mkF, argsToLocals, Value.category]; done) | rfl
theorem pnOI : plainFor (⟨"com/example/horatius/horatius/core/OutlinePage", "<init>", "(IILcom/example/horatius/horatius/core/PageSummary;Lcom/example/horatius/horatius/core/PageSummary;I)V"⟩ : MethodName) = true := plainFor_of_name (by first | (simp [plainName, overriddenIn]; done) | decide +kernel)
theorem dCO_0 : Dc jdk_65_method_123_code 0 (.iload_n 1) 1 1 := ⟨by decide +kernel, rfl⟩
theorem dCO_1 : Dc jdk_65_method_123_code 1 (.aload_n 0) 1 2 := ⟨by decide +kernel, rfl⟩
theorem dCO_2 : Dc jdk_65_method_123_code 2 .arraylength 1 3 := ⟨by decide +kernel, rfl⟩
theorem dCO_3 : Db jdk_65_method_123_code 3 (.if_icmp .ne 11) 11 6 14 := ⟨by decide +kernel, rfl, by decide, by decide⟩
theorem dCO_14 : Dc jdk_65_method_123_code 14 (.iload_n 1) 1 15 := ⟨by decide +kernel, rfl⟩
theorem dCO_15 : Dc jdk_65_method_123_code 15 (.newarray .int) 2 17 := ⟨by decide +kernel, rfl⟩
theorem dCO_17 : Dc jdk_65_method_123_code 17 (.astore_n 2) 1 18 := ⟨by decide +kernel, rfl⟩
theorem dCO_18 : Dc jdk_65_method_123_code 18 (.aload_n 0) 1 19 := ⟨by decide +kernel, rfl⟩
theorem dCO_19 : Dc jdk_65_method_123_code 19 (.iconst 0) 1 20 := ⟨by decide +kernel, rfl⟩
theorem dCO_20 : Dc jdk_65_method_123_code 20 (.aload_n 2) 1 21 := ⟨by decide +kernel, rfl⟩
theorem dCO_21 : Dc jdk_65_method_123_code 21 (.iconst 0) 1 22 := ⟨by decide +kernel, rfl⟩
theorem dCO_22 : Dc jdk_65_method_123_code 22 (.aload_n 0) 1 23 := ⟨by decide +kernel, rfl⟩
theorem dCO_23 : Dc jdk_65_method_123_code 23 .arraylength 1 24 := ⟨by decide +kernel, rfl⟩
theorem dCO_24 : Dc jdk_65_method_123_code 24 (.iload_n 1) 1 25 := ⟨by decide +kernel, rfl⟩
theorem dCO_25 : Dc jdk_65_method_123_code 25 (.invokestatic 304) 3 28 := ⟨by decide +kernel, rfl⟩
set_option maxRecDepth 65536 in
theorem wd5 {Z : State} {a0 : Array Value} (hw : ∀ d ∈ tables_1, d.before a0 Z = true) : (Jvm.Cond.initialized "java/lang/Math").before a0 Z = true := hw _ (List.mem_of_getElem? (i := 5) rfl)
theorem pd_5 : parseMethodDescriptor "(II)I" = some ⟨[.int, .int], some .int⟩ := by decide +kernel
set_option maxRecDepth 65536 in
theorem wd202 {Z : State} {a0 : Array Value} (hw : ∀ d ∈ tables_1, d.before a0 Z = true) : (Jvm.Cond.methodLink "java/util/Arrays" (304 : Nat) ({ cls := "java/lang/Math", name := "min", desc := "(II)I" } : Jvm.MethodName)).before a0 Z = true := hw _ (List.mem_of_getElem? (i := 202) rfl)
set_option maxRecDepth 65536 in
theorem wd4 {Z : State} {a0 : Array Value} (hw : ∀ d ∈ tables_1, d.before a0 Z = true) : (Jvm.Cond.static ({ cls := "java/lang/Math", name := "min", desc := "(II)I" } : Jvm.MethodName)).before a0 Z = true := hw _ (List.mem_of_getElem? (i := 4) rfl)
set_option maxRecDepth 65536 in
theorem wd6 {Z : State} {a0 : Array Value} (hw : ∀ d ∈ tables_1, d.before a0 Z = true) : (Jvm.Cond.code ({ cls := "java/lang/Math", name := "min", desc := "(II)I" } : Jvm.MethodName) jdk_29_method_69_code (2 : Nat) (Option.some Jvm.ClassFile.FieldType.int)).before a0 Z = true := hw _ (List.mem_of_getElem? (i := 6) rfl)
theorem dCO_28 : Dc jdk_65_method_123_code 28 (.invokestatic 150) 3 31 := ⟨by decide +kernel, rfl⟩
set_option maxRecDepth 65536 in
theorem wd203 {Z : State} {a0 : Array Value} (hw : ∀ d ∈ tables_1, d.before a0 Z = true) : (Jvm.Cond.methodLink "java/util/Arrays" (150 : Nat) ({ cls := "java/lang/System", name := "arraycopy", desc := "(Ljava/lang/Object;ILjava/lang/Object;II)V" } : Jvm.MethodName)).before a0 Z = true := hw _ (List.mem_of_getElem? (i := 203) rfl)
set_option maxRecDepth 65536 in
theorem wd206 {Z : State} {a0 : Array Value} (hw : ∀ d ∈ tables_1, d.before a0 Z = true) : (Jvm.Cond.native ({ cls := "java/lang/System", name := "arraycopy", desc := "(Ljava/lang/Object;ILjava/lang/Object;II)V" } : Jvm.MethodName)).before a0 Z = true := hw _ (List.mem_of_getElem? (i := 206) rfl)
set_option maxRecDepth 65536 in
theorem wd204 {Z : State} {a0 : Array Value} (hw : ∀ d ∈ tables_1, d.before a0 Z = true) : (Jvm.Cond.static ({ cls := "java/lang/System", name := "arraycopy", desc := "(Ljava/lang/Object;ILjava/lang/Object;II)V" } : Jvm.MethodName)).before a0 Z = true := hw _ (List.mem_of_getElem? (i := 204) rfl)
set_option maxRecDepth 65536 in
theorem wd205 {Z : State} {a0 : Array Value} (hw : ∀ d ∈ tables_1, d.before a0 Z = true) : (Jvm.Cond.initialized "java/lang/System").before a0 Z = true := hw _ (List.mem_of_getElem? (i := 205) rfl)
theorem dCO_31 : Dc jdk_65_method_123_code 31 (.aload_n 2) 1 32 := ⟨by decide +kernel, rfl⟩
theorem dCO_32 : Dc jdk_65_method_123_code 32 .areturn 1 33 := ⟨by decide +kernel, rfl⟩
theorem efCO (m : MethodId) (x0 : Addr) (x1 : Int32) : entryFrame m #[.ref x0, .int x1] 3 = mkF m 0 #[.val (.ref x0), .val (.int x1), .unset] [] := by first | (simp [entryFrame, mkF, argsToLocals, Value.category]; done) | rfl
theorem pnCO : plainFor (⟨"java/util/Arrays", "copyOf", "([II)[I"⟩ : MethodName) = true := plainFor_of_name (by first | (simp [plainName, overriddenIn]; done) | decide +kernel)
theorem dIS_0 : Dc jdk_2529_method_6_code 0 (.iload_n 1) 1 1 := ⟨by decide +kernel, rfl⟩
theorem dIS_1 : Dc jdk_2529_method_6_code 1 (.istore 4) 2 3 := ⟨by decide +kernel, rfl⟩
theorem dIS_3 : Dc jdk_2529_method_6_code 3 (.iinc 4 1) 3 6 := ⟨by decide +kernel, rfl⟩
theorem dIS_6 : Dc jdk_2529_method_6_code 6 (.iload 4) 2 8 := ⟨by decide +kernel, rfl⟩
theorem dIS_8 : Dc jdk_2529_method_6_code 8 (.iload_n 2) 1 9 := ⟨by decide +kernel, rfl⟩
theorem dIS_9 : Db jdk_2529_method_6_code 9 (.if_icmp .ge 58) 58 12 67 := ⟨by decide +kernel, rfl, by decide, by decide⟩
theorem dIS_67 : Dc jdk_2529_method_6_code 67 .return_ 1 68 := ⟨by decide +kernel, rfl⟩
theorem dIS_12 : Dc jdk_2529_method_6_code 12 (.aload_n 0) 1 13 := ⟨by decide +kernel, rfl⟩
theorem dIS_13 : Dc jdk_2529_method_6_code 13 (.iload 4) 2 15 := ⟨by decide +kernel, rfl⟩
theorem dIS_15 : Dc jdk_2529_method_6_code 15 .dup 1 16 := ⟨by decide +kernel, rfl⟩
theorem dIS_16 : Dc jdk_2529_method_6_code 16 (.istore_n 3) 1 17 := ⟨by decide +kernel, rfl⟩
theorem dIS_17 : Dc jdk_2529_method_6_code 17 .iaload 1 18 := ⟨by decide +kernel, rfl⟩
theorem dIS_18 : Dc jdk_2529_method_6_code 18 (.istore 5) 2 20 := ⟨by decide +kernel, rfl⟩
theorem dIS_20 : Dc jdk_2529_method_6_code 20 (.iload 5) 2 22 := ⟨by decide +kernel, rfl⟩
theorem dIS_22 : Dc jdk_2529_method_6_code 22 (.aload_n 0) 1 23 := ⟨by decide +kernel, rfl⟩
theorem dIS_23 : Dc jdk_2529_method_6_code 23 (.iload_n 3) 1 24 := ⟨by decide +kernel, rfl⟩
theorem dIS_24 : Dc jdk_2529_method_6_code 24 (.iconst 1) 1 25 := ⟨by decide +kernel, rfl⟩
theorem dIS_25 : Dc jdk_2529_method_6_code 25 .isub 1 26 := ⟨by decide +kernel, rfl⟩
theorem dIS_26 : Dc jdk_2529_method_6_code 26 .iaload 1 27 := ⟨by decide +kernel, rfl⟩
theorem dIS_27 : Db jdk_2529_method_6_code 27 (.if_icmp .ge 37) 37 30 64 := ⟨by decide +kernel, rfl, by decide, by decide⟩
theorem dIS_30 : Dc jdk_2529_method_6_code 30 (.iinc 3 (-1)) 3 33 := ⟨by decide +kernel, rfl⟩
theorem dIS_33 : Dc jdk_2529_method_6_code 33 (.iload_n 3) 1 34 := ⟨by decide +kernel, rfl⟩
theorem dIS_34 : Dc jdk_2529_method_6_code 34 (.iload_n 1) 1 35 := ⟨by decide +kernel, rfl⟩
theorem dIS_35 : Db jdk_2529_method_6_code 35 (.if_icmp .lt 22) 22 38 57 := ⟨by decide +kernel, rfl, by decide, by decide⟩
theorem dIS_38 : Dc jdk_2529_method_6_code 38 (.iload 5) 2 40 := ⟨by decide +kernel, rfl⟩
theorem dIS_40 : Dc jdk_2529_method_6_code 40 (.aload_n 0) 1 41 := ⟨by decide +kernel, rfl⟩
theorem dIS_41 : Dc jdk_2529_method_6_code 41 (.iload_n 3) 1 42 := ⟨by decide +kernel, rfl⟩
theorem dIS_42 : Dc jdk_2529_method_6_code 42 .iaload 1 43 := ⟨by decide +kernel, rfl⟩
theorem dIS_43 : Db jdk_2529_method_6_code 43 (.if_icmp .ge 14) 14 46 57 := ⟨by decide +kernel, rfl, by decide, by decide⟩
theorem dIS_46 : Dc jdk_2529_method_6_code 46 (.aload_n 0) 1 47 := ⟨by decide +kernel, rfl⟩
theorem dIS_47 : Dc jdk_2529_method_6_code 47 (.iload_n 3) 1 48 := ⟨by decide +kernel, rfl⟩
theorem dIS_48 : Dc jdk_2529_method_6_code 48 (.iconst 1) 1 49 := ⟨by decide +kernel, rfl⟩
theorem dIS_49 : Dc jdk_2529_method_6_code 49 .iadd 1 50 := ⟨by decide +kernel, rfl⟩
theorem dIS_50 : Dc jdk_2529_method_6_code 50 (.aload_n 0) 1 51 := ⟨by decide +kernel, rfl⟩
theorem dIS_51 : Dc jdk_2529_method_6_code 51 (.iload_n 3) 1 52 := ⟨by decide +kernel, rfl⟩
theorem dIS_52 : Dc jdk_2529_method_6_code 52 .iaload 1 53 := ⟨by decide +kernel, rfl⟩
theorem dIS_53 : Dc jdk_2529_method_6_code 53 .iastore 1 54 := ⟨by decide +kernel, rfl⟩
theorem dIS_54 : Db jdk_2529_method_6_code 54 (.goto (-24)) (-24) 57 30 := ⟨by decide +kernel, rfl, by decide, by decide⟩
theorem dIS_57 : Dc jdk_2529_method_6_code 57 (.aload_n 0) 1 58 := ⟨by decide +kernel, rfl⟩
theorem dIS_58 : Dc jdk_2529_method_6_code 58 (.iload_n 3) 1 59 := ⟨by decide +kernel, rfl⟩
theorem dIS_59 : Dc jdk_2529_method_6_code 59 (.iconst 1) 1 60 := ⟨by decide +kernel, rfl⟩
theorem dIS_60 : Dc jdk_2529_method_6_code 60 .iadd 1 61 := ⟨by decide +kernel, rfl⟩
theorem dIS_61 : Dc jdk_2529_method_6_code 61 (.iload 5) 2 63 := ⟨by decide +kernel, rfl⟩
theorem dIS_63 : Dc jdk_2529_method_6_code 63 .iastore 1 64 := ⟨by decide +kernel, rfl⟩
theorem dIS_64 : Db jdk_2529_method_6_code 64 (.goto (-61)) (-61) 67 3 := ⟨by decide +kernel, rfl, by decide, by decide⟩
theorem efIS (m : MethodId) (x0 : Addr) (x1 : Int32) (x2 : Int32) : entryFrame m #[.ref x0, .int x1, .int x2] 6 = mkF m 0 #[.val (.ref x0), .val (.int x1), .val (.int x2), .unset, .unset, .unset] [] := by first | (simp [entryFrame, mkF, argsToLocals, Value.category]; done) | rfl
theorem pnIS : plainFor (⟨"java/util/DualPivotQuicksort", "insertionSort", "([III)V"⟩ : MethodName) = true := plainFor_of_name (by first | (simp [plainName, overriddenIn]; done) | decide +kernel)
theorem dS5_0 : Dc jdk_2529_method_4_code 0 (.iload 4) 2 2 := ⟨by decide +kernel, rfl⟩
theorem dS5_2 : Dc jdk_2529_method_4_code 2 (.iconst 1) 1 3 := ⟨by decide +kernel, rfl⟩
theorem dS5_3 : Dc jdk_2529_method_4_code 3 .isub 1 4 := ⟨by decide +kernel, rfl⟩
theorem dS5_4 : Dc jdk_2529_method_4_code 4 (.istore 5) 2 6 := ⟨by decide +kernel, rfl⟩
theorem dS5_6 : Dc jdk_2529_method_4_code 6 (.iload 4) 2 8 := ⟨by decide +kernel, rfl⟩
theorem dS5_8 : Dc jdk_2529_method_4_code 8 (.iload_n 3) 1 9 := ⟨by decide +kernel, rfl⟩
theorem dS5_9 : Dc jdk_2529_method_4_code 9 .isub 1 10 := ⟨by decide +kernel, rfl⟩
theorem dS5_10 : Dc jdk_2529_method_4_code 10 (.istore 6) 2 12 := ⟨by decide +kernel, rfl⟩
theorem dS5_12 : Dc jdk_2529_method_4_code 12 (.iload 6) 2 14 := ⟨by decide +kernel, rfl⟩
theorem dS5_14 : Dc jdk_2529_method_4_code 14 (.bipush 65) 2 16 := ⟨by decide +kernel, rfl⟩
theorem dS5_16 : Dc jdk_2529_method_4_code 16 (.iload_n 2) 1 17 := ⟨by decide +kernel, rfl⟩
theorem dS5_17 : Dc jdk_2529_method_4_code 17 .iadd 1 18 := ⟨by decide +kernel, rfl⟩
theorem dS5_18 : Db jdk_2529_method_4_code 18 (.if_icmp .ge 28) 28 21 46 := ⟨by decide +kernel, rfl, by decide, by decide⟩
theorem dS5_21 : Dc jdk_2529_method_4_code 21 (.iload_n 2) 1 22 := ⟨by decide +kernel, rfl⟩
theorem dS5_22 : Dc jdk_2529_method_4_code 22 (.iconst 1) 1 23 := ⟨by decide +kernel, rfl⟩
theorem dS5_23 : Dc jdk_2529_method_4_code 23 .iand 1 24 := ⟨by decide +kernel, rfl⟩
theorem dS5_24 : Db jdk_2529_method_4_code 24 (.ifCond .le 22) 22 27 46 := ⟨by decide +kernel, rfl, by decide, by decide⟩
theorem dS5_46 : Dc jdk_2529_method_4_code 46 (.iload 6) 2 48 := ⟨by decide +kernel, rfl⟩
theorem dS5_48 : Dc jdk_2529_method_4_code 48 (.bipush 44) 2 50 := ⟨by decide +kernel, rfl⟩
theorem dS5_50 : Db jdk_2529_method_4_code 50 (.if_icmp .ge 11) 11 53 61 := ⟨by decide +kernel, rfl, by decide, by decide⟩
theorem dS5_53 : Dc jdk_2529_method_4_code 53 (.aload_n 1) 1 54 := ⟨by decide +kernel, rfl⟩
theorem dS5_54 : Dc jdk_2529_method_4_code 54 (.iload_n 3) 1 55 := ⟨by decide +kernel, rfl⟩
theorem dS5_55 : Dc jdk_2529_method_4_code 55 (.iload 4) 2 57 := ⟨by decide +kernel, rfl⟩
theorem dS5_57 : Dc jdk_2529_method_4_code 57 (.invokestatic 34) 3 60 := ⟨by decide +kernel, rfl⟩
set_option maxRecDepth 65536 in
theorem wd216 {Z : State} {a0 : Array Value} (hw : ∀ d ∈ tables_1, d.before a0 Z = true) : (Jvm.Cond.initialized "java/util/DualPivotQuicksort").before a0 Z = true := hw _ (List.mem_of_getElem? (i := 216) rfl)
theorem pd_6 : parseMethodDescriptor "([III)V" = some ⟨[(.array .int), .int, .int], none⟩ := by decide +kernel
set_option maxRecDepth 65536 in
theorem wd221 {Z : State} {a0 : Array Value} (hw : ∀ d ∈ tables_1, d.before a0 Z = true) : (Jvm.Cond.methodLink "java/util/DualPivotQuicksort" (34 : Nat) ({ cls := "java/util/DualPivotQuicksort", name := "insertionSort", desc := "([III)V" } : Jvm.MethodName)).before a0 Z = true := hw _ (List.mem_of_getElem? (i := 221) rfl)
set_option maxRecDepth 65536 in
theorem wd222 {Z : State} {a0 : Array Value} (hw : ∀ d ∈ tables_1, d.before a0 Z = true) : (Jvm.Cond.static ({ cls := "java/util/DualPivotQuicksort", name := "insertionSort", desc := "([III)V" } : Jvm.MethodName)).before a0 Z = true := hw _ (List.mem_of_getElem? (i := 222) rfl)
set_option maxRecDepth 65536 in
theorem wd223 {Z : State} {a0 : Array Value} (hw : ∀ d ∈ tables_1, d.before a0 Z = true) : (Jvm.Cond.code ({ cls := "java/util/DualPivotQuicksort", name := "insertionSort", desc := "([III)V" } : Jvm.MethodName) jdk_2529_method_6_code (6 : Nat) (Option.none : Option Jvm.ClassFile.FieldType)).before a0 Z = true := hw _ (List.mem_of_getElem? (i := 223) rfl)
theorem dS5_60 : Dc jdk_2529_method_4_code 60 .return_ 1 61 := ⟨by decide +kernel, rfl⟩
theorem efS5 (m : MethodId) (x1 : Addr) (x2 : Int32) (x3 : Int32) (x4 : Int32) : entryFrame m #[.null, .ref x1, .int x2, .int x3, .int x4] 21 = mkF m 0 #[.val .null, .val (.ref x1), .val (.int x2), .val (.int x3), .val (.int x4), .unset, .unset, .unset, .unset, .unset, .unset, .unset, .unset, .unset, .unset, .unset, .unset, .unset, .unset, .unset, .unset] [] := by first | (simp [entryFrame, mkF, argsToLocals, Value.category]; done) | rfl
theorem pnS5 : plainFor (⟨"java/util/DualPivotQuicksort", "sort", "(Ljava/util/DualPivotQuicksort$Sorter;[IIII)V"⟩ : MethodName) = true := plainFor_of_name (by first | (simp [plainName, overriddenIn]; done) | decide +kernel)
theorem dS4_0 : Dc jdk_2529_method_3_code 0 (.iload_n 3) 1 1 := ⟨by decide +kernel, rfl⟩
theorem dS4_1 : Dc jdk_2529_method_3_code 1 (.iload_n 2) 1 2 := ⟨by decide +kernel, rfl⟩
theorem dS4_2 : Dc jdk_2529_method_3_code 2 .isub 1 3 := ⟨by decide +kernel, rfl⟩
theorem dS4_3 : Dc jdk_2529_method_3_code 3 (.istore 4) 2 5 := ⟨by decide +kernel, rfl⟩
theorem dS4_5 : Dc jdk_2529_method_3_code 5 (.iload_n 1) 1 6 := ⟨by decide +kernel, rfl⟩
theorem dS4_6 : Dc jdk_2529_method_3_code 6 (.iconst 1) 1 7 := ⟨by decide +kernel, rfl⟩
theorem dS4_7 : Db jdk_2529_method_3_code 7 (.if_icmp .le 61) 61 10 68 := ⟨by decide +kernel, rfl, by decide, by decide⟩
theorem dS4_68 : Dc jdk_2529_method_3_code 68 .aconst_null 1 69 := ⟨by decide +kernel, rfl⟩
theorem dS4_69 : Dc jdk_2529_method_3_code 69 (.aload_n 0) 1 70 := ⟨by decide +kernel, rfl⟩
theorem dS4_70 : Dc jdk_2529_method_3_code 70 (.iconst 0) 1 71 := ⟨by decide +kernel, rfl⟩
theorem dS4_71 : Dc jdk_2529_method_3_code 71 (.iload_n 2) 1 72 := ⟨by decide +kernel, rfl⟩
theorem dS4_72 : Dc jdk_2529_method_3_code 72 (.iload_n 3) 1 73 := ⟨by decide +kernel, rfl⟩
theorem dS4_73 : Dc jdk_2529_method_3_code 73 (.invokestatic 26) 3 76 := ⟨by decide +kernel, rfl⟩
theorem pd_7 : parseMethodDescriptor "(Ljava/util/DualPivotQuicksort$Sorter;[IIII)V" = some ⟨[(.object "java/util/DualPivotQuicksort$Sorter"), (.array .int), .int, .int, .int], none⟩ := by decide +kernel
set_option maxRecDepth 65536 in
theorem wd218 {Z : State} {a0 : Array Value} (hw : ∀ d ∈ tables_1, d.before a0 Z = true) : (Jvm.Cond.methodLink "java/util/DualPivotQuicksort" (26 : Nat) ({ cls := "java/util/DualPivotQuicksort", name := "sort", desc := "(Ljava/util/DualPivotQuicksort$Sorter;[IIII)V" } : Jvm.MethodName)).before a0 Z = true := hw _ (List.mem_of_getElem? (i := 218) rfl)
set_option maxRecDepth 65536 in
theorem wd219 {Z : State} {a0 : Array Value} (hw : ∀ d ∈ tables_1, d.before a0 Z = true) : (Jvm.Cond.static ({ cls := "java/util/DualPivotQuicksort", name := "sort", desc := "(Ljava/util/DualPivotQuicksort$Sorter;[IIII)V" } : Jvm.MethodName)).before a0 Z = true := hw _ (List.mem_of_getElem? (i := 219) rfl)
set_option maxRecDepth 65536 in
theorem wd220 {Z : State} {a0 : Array Value} (hw : ∀ d ∈ tables_1, d.before a0 Z = true) : (Jvm.Cond.code ({ cls := "java/util/DualPivotQuicksort", name := "sort", desc := "(Ljava/util/DualPivotQuicksort$Sorter;[IIII)V" } : Jvm.MethodName) jdk_2529_method_4_code (21 : Nat) (Option.none : Option Jvm.ClassFile.FieldType)).before a0 Z = true := hw _ (List.mem_of_getElem? (i := 220) rfl)
theorem dS4_76 : Dc jdk_2529_method_3_code 76 .return_ 1 77 := ⟨by decide +kernel, rfl⟩
theorem efS4 (m : MethodId) (x0 : Addr) (x1 : Int32) (x2 : Int32) (x3 : Int32) : entryFrame m #[.ref x0, .int x1, .int x2, .int x3] 7 = mkF m 0 #[.val (.ref x0), .val (.int x1), .val (.int x2), .val (.int x3), .unset, .unset, .unset] [] := by first | (simp [entryFrame, mkF, argsToLocals, Value.category]; done) | rfl
theorem pnS4 : plainFor (⟨"java/util/DualPivotQuicksort", "sort", "([IIII)V"⟩ : MethodName) = true := plainFor_of_name (by first | (simp [plainName, overriddenIn]; done) | decide +kernel)
theorem dSO_0 : Dc jdk_65_method_2_code 0 (.aload_n 0) 1 1 := ⟨by decide +kernel, rfl⟩
theorem dSO_1 : Dc jdk_65_method_2_code 1 (.iconst 0) 1 2 := ⟨by decide +kernel, rfl⟩
theorem dSO_2 : Dc jdk_65_method_2_code 2 (.iconst 0) 1 3 := ⟨by decide +kernel, rfl⟩
theorem dSO_3 : Dc jdk_65_method_2_code 3 (.aload_n 0) 1 4 := ⟨by decide +kernel, rfl⟩
theorem dSO_4 : Dc jdk_65_method_2_code 4 .arraylength 1 5 := ⟨by decide +kernel, rfl⟩
theorem dSO_5 : Dc jdk_65_method_2_code 5 (.invokestatic 7) 3 8 := ⟨by decide +kernel, rfl⟩
theorem pd_8 : parseMethodDescriptor "([IIII)V" = some ⟨[(.array .int), .int, .int, .int], none⟩ := by decide +kernel
set_option maxRecDepth 65536 in
theorem wd214 {Z : State} {a0 : Array Value} (hw : ∀ d ∈ tables_1, d.before a0 Z = true) : (Jvm.Cond.methodLink "java/util/Arrays" (7 : Nat) ({ cls := "java/util/DualPivotQuicksort", name := "sort", desc := "([IIII)V" } : Jvm.MethodName)).before a0 Z = true := hw _ (List.mem_of_getElem? (i := 214) rfl)
set_option maxRecDepth 65536 in
theorem wd215 {Z : State} {a0 : Array Value} (hw : ∀ d ∈ tables_1, d.before a0 Z = true) : (Jvm.Cond.static ({ cls := "java/util/DualPivotQuicksort", name := "sort", desc := "([IIII)V" } : Jvm.MethodName)).before a0 Z = true := hw _ (List.mem_of_getElem? (i := 215) rfl)
set_option maxRecDepth 65536 in
theorem wd217 {Z : State} {a0 : Array Value} (hw : ∀ d ∈ tables_1, d.before a0 Z = true) : (Jvm.Cond.code ({ cls := "java/util/DualPivotQuicksort", name := "sort", desc := "([IIII)V" } : Jvm.MethodName) jdk_2529_method_3_code (7 : Nat) (Option.none : Option Jvm.ClassFile.FieldType)).before a0 Z = true := hw _ (List.mem_of_getElem? (i := 217) rfl)
theorem dSO_8 : Dc jdk_65_method_2_code 8 .return_ 1 9 := ⟨by decide +kernel, rfl⟩
theorem efSO (m : MethodId) (x0 : Addr) : entryFrame m #[.ref x0] 1 = mkF m 0 #[.val (.ref x0)] [] := by first | (simp [entryFrame, mkF, argsToLocals, Value.category]; done) | rfl
theorem pnSO : plainFor (⟨"java/util/Arrays", "sort", "([I)V"⟩ : MethodName) = true := plainFor_of_name (by first | (simp [plainName, overriddenIn]; done) | decide +kernel)
theorem dRC_0 : Dc jdk_65_method_30_code 0 (.iload_n 1) 1 1 := ⟨by decide +kernel, rfl⟩
theorem dRC_1 : Dc jdk_65_method_30_code 1 (.iload_n 2) 1 2 := ⟨by decide +kernel, rfl⟩
theorem dRC_2 : Db jdk_65_method_30_code 2 (.if_icmp .le 44) 44 5 46 := ⟨by decide +kernel, rfl, by decide, by decide⟩
theorem dRC_46 : Dc jdk_65_method_30_code 46 (.iload_n 1) 1 47 := ⟨by decide +kernel, rfl⟩
theorem dRC_47 : Db jdk_65_method_30_code 47 (.ifCond .ge 12) 12 50 59 := ⟨by decide +kernel, rfl, by decide, by decide⟩
theorem dRC_59 : Dc jdk_65_method_30_code 59 (.iload_n 2) 1 60 := ⟨by decide +kernel, rfl⟩
theorem dRC_60 : Dc jdk_65_method_30_code 60 (.iload_n 0) 1 61 := ⟨by decide +kernel, rfl⟩
theorem dRC_61 : Db jdk_65_method_30_code 61 (.if_icmp .le 12) 12 64 73 := ⟨by decide +kernel, rfl, by decide, by decide⟩
theorem dRC_73 : Dc jdk_65_method_30_code 73 .return_ 1 74 := ⟨by decide +kernel, rfl⟩
theorem efRC (m : MethodId) (x0 : Int32) (x1 : Int32) (x2 : Int32) : entryFrame m #[.int x0, .int x1, .int x2] 3 = mkF m 0 #[.val (.int x0), .val (.int x1), .val (.int x2)] [] := by first | (simp [entryFrame, mkF, argsToLocals, Value.category]; done) | rfl
theorem pnRC : plainFor (⟨"java/util/Arrays", "rangeCheck", "(III)V"⟩ : MethodName) = true := plainFor_of_name (by first | (simp [plainName, overriddenIn]; done) | decide +kernel)
theorem dMM_0 : Dc jdk_48_method_20_code 0 (.iconst 0) 1 1 := ⟨by decide +kernel, rfl⟩
theorem dMM_1 : Dc jdk_48_method_20_code 1 (.istore 5) 2 3 := ⟨by decide +kernel, rfl⟩
theorem dMM_3 : Dc jdk_48_method_20_code 3 (.iload 4) 2 5 := ⟨by decide +kernel, rfl⟩
theorem dMM_5 : Dc jdk_48_method_20_code 5 (.iconst 1) 1 6 := ⟨by decide +kernel, rfl⟩
theorem dMM_6 : Db jdk_48_method_20_code 6 (.if_icmp .le 71) 71 9 77 := ⟨by decide +kernel, rfl, by decide, by decide⟩
theorem dMM_77 : Dc jdk_48_method_20_code 77 (.iload 5) 2 79 := ⟨by decide +kernel, rfl⟩
theorem dMM_79 : Dc jdk_48_method_20_code 79 (.iload 4) 2 81 := ⟨by decide +kernel, rfl⟩
theorem dMM_81 : Db jdk_48_method_20_code 81 (.if_icmp .ge 27) 27 84 108 := ⟨by decide +kernel, rfl, by decide, by decide⟩
theorem dMM_108 : Dc jdk_48_method_20_code 108 (.iconst (-1)) 1 109 := ⟨by decide +kernel, rfl⟩
theorem dMM_109 : Dc jdk_48_method_20_code 109 .ireturn 1 110 := ⟨by decide +kernel, rfl⟩
theorem efMM (m : MethodId) (x0 : Addr) (x1 : Int32) (x2 : Addr) (x3 : Int32) (x4 : Int32) : entryFrame m #[.ref x0, .int x1, .ref x2, .int x3, .int x4] 8 = mkF m 0 #[.val (.ref x0), .val (.int x1), .val (.ref x2), .val (.int x3), .val (.int x4), .unset, .unset, .unset] [] := by first | (simp [entryFrame, mkF, argsToLocals, Value.category]; done) | rfl
theorem pnMM : plainFor (⟨"jdk/internal/util/ArraysSupport", "mismatch", "([II[III)I"⟩ : MethodName) = true := plainFor_of_name (by first | (simp [plainName, overriddenIn]; done) | decide +kernel)
theorem dAE_0 : Dc jdk_65_method_84_code 0 (.aload_n 0) 1 1 := ⟨by decide +kernel, rfl⟩
theorem dAE_1 : Dc jdk_65_method_84_code 1 .arraylength 1 2 := ⟨by decide +kernel, rfl⟩
theorem dAE_2 : Dc jdk_65_method_84_code 2 (.iload_n 1) 1 3 := ⟨by decide +kernel, rfl⟩
theorem dAE_3 : Dc jdk_65_method_84_code 3 (.iload_n 2) 1 4 := ⟨by decide +kernel, rfl⟩
theorem dAE_4 : Dc jdk_65_method_84_code 4 (.invokestatic 13) 3 7 := ⟨by decide +kernel, rfl⟩
set_option maxRecDepth 65536 in
theorem wd185 {Z : State} {a0 : Array Value} (hw : ∀ d ∈ tables_1, d.before a0 Z = true) : (Jvm.Cond.initialized "java/util/Arrays").before a0 Z = true := hw _ (List.mem_of_getElem? (i := 185) rfl)
theorem pd_9 : parseMethodDescriptor "(III)V" = some ⟨[.int, .int, .int], none⟩ := by decide +kernel
set_option maxRecDepth 65536 in
theorem wd187 {Z : State} {a0 : Array Value} (hw : ∀ d ∈ tables_1, d.before a0 Z = true) : (Jvm.Cond.methodLink "java/util/Arrays" (13 : Nat) ({ cls := "java/util/Arrays", name := "rangeCheck", desc := "(III)V" } : Jvm.MethodName)).before a0 Z = true := hw _ (List.mem_of_getElem? (i := 187) rfl)
set_option maxRecDepth 65536 in
theorem wd188 {Z : State} {a0 : Array Value} (hw : ∀ d ∈ tables_1, d.before a0 Z = true) : (Jvm.Cond.static ({ cls := "java/util/Arrays", name := "rangeCheck", desc := "(III)V" } : Jvm.MethodName)).before a0 Z = true := hw _ (List.mem_of_getElem? (i := 188) rfl)
set_option maxRecDepth 65536 in
theorem wd189 {Z : State} {a0 : Array Value} (hw : ∀ d ∈ tables_1, d.before a0 Z = true) : (Jvm.Cond.code ({ cls := "java/util/Arrays", name := "rangeCheck", desc := "(III)V" } : Jvm.MethodName) jdk_65_method_30_code (3 : Nat) (Option.none : Option Jvm.ClassFile.FieldType)).before a0 Z = true := hw _ (List.mem_of_getElem? (i := 189) rfl)
theorem dAE_7 : Dc jdk_65_method_84_code 7 (.aload_n 3) 1 8 := ⟨by decide +kernel, rfl⟩
theorem dAE_8 : Dc jdk_65_method_84_code 8 .arraylength 1 9 := ⟨by decide +kernel, rfl⟩
theorem dAE_9 : Dc jdk_65_method_84_code 9 (.iload 4) 2 11 := ⟨by decide +kernel, rfl⟩
theorem dAE_11 : Dc jdk_65_method_84_code 11 (.iload 5) 2 13 := ⟨by decide +kernel, rfl⟩
theorem dAE_13 : Dc jdk_65_method_84_code 13 (.invokestatic 13) 3 16 := ⟨by decide +kernel, rfl⟩
theorem dAE_16 : Dc jdk_65_method_84_code 16 (.iload_n 2) 1 17 := ⟨by decide +kernel, rfl⟩
theorem dAE_17 : Dc jdk_65_method_84_code 17 (.iload_n 1) 1 18 := ⟨by decide +kernel, rfl⟩
theorem dAE_18 : Dc jdk_65_method_84_code 18 .isub 1 19 := ⟨by decide +kernel, rfl⟩
theorem dAE_19 : Dc jdk_65_method_84_code 19 (.istore 6) 2 21 := ⟨by decide +kernel, rfl⟩
theorem dAE_21 : Dc jdk_65_method_84_code 21 (.iload 5) 2 23 := ⟨by decide +kernel, rfl⟩
theorem dAE_23 : Dc jdk_65_method_84_code 23 (.iload 4) 2 25 := ⟨by decide +kernel, rfl⟩
theorem dAE_25 : Dc jdk_65_method_84_code 25 .isub 1 26 := ⟨by decide +kernel, rfl⟩
theorem dAE_26 : Dc jdk_65_method_84_code 26 (.istore 7) 2 28 := ⟨by decide +kernel, rfl⟩
theorem dAE_28 : Dc jdk_65_method_84_code 28 (.iload 6) 2 30 := ⟨by decide +kernel, rfl⟩
theorem dAE_30 : Dc jdk_65_method_84_code 30 (.iload 7) 2 32 := ⟨by decide +kernel, rfl⟩
theorem dAE_32 : Db jdk_65_method_84_code 32 (.if_icmp .eq 5) 5 35 37 := ⟨by decide +kernel, rfl, by decide, by decide⟩
theorem dAE_37 : Dc jdk_65_method_84_code 37 (.aload_n 0) 1 38 := ⟨by decide +kernel, rfl⟩
theorem dAE_38 : Dc jdk_65_method_84_code 38 (.iload_n 1) 1 39 := ⟨by decide +kernel, rfl⟩
theorem dAE_39 : Dc jdk_65_method_84_code 39 (.aload_n 3) 1 40 := ⟨by decide +kernel, rfl⟩
theorem dAE_40 : Dc jdk_65_method_84_code 40 (.iload 4) 2 42 := ⟨by decide +kernel, rfl⟩
theorem dAE_42 : Dc jdk_65_method_84_code 42 (.iload 6) 2 44 := ⟨by decide +kernel, rfl⟩
theorem dAE_44 : Dc jdk_65_method_84_code 44 (.invokestatic 257) 3 47 := ⟨by decide +kernel, rfl⟩
set_option maxRecDepth 65536 in
theorem wd192 {Z : State} {a0 : Array Value} (hw : ∀ d ∈ tables_1, d.before a0 Z = true) : (Jvm.Cond.initialized "jdk/internal/util/ArraysSupport").before a0 Z = true := hw _ (List.mem_of_getElem? (i := 192) rfl)
theorem pd_10 : parseMethodDescriptor "([II[III)I" = some ⟨[(.array .int), .int, (.array .int), .int, .int], some .int⟩ := by decide +kernel
set_option maxRecDepth 65536 in
theorem wd190 {Z : State} {a0 : Array Value} (hw : ∀ d ∈ tables_1, d.before a0 Z = true) : (Jvm.Cond.methodLink "java/util/Arrays" (257 : Nat) ({ cls := "jdk/internal/util/ArraysSupport", name := "mismatch", desc := "([II[III)I" } : Jvm.MethodName)).before a0 Z = true := hw _ (List.mem_of_getElem? (i := 190) rfl)
set_option maxRecDepth 65536 in
theorem wd191 {Z : State} {a0 : Array Value} (hw : ∀ d ∈ tables_1, d.before a0 Z = true) : (Jvm.Cond.static ({ cls := "jdk/internal/util/ArraysSupport", name := "mismatch", desc := "([II[III)I" } : Jvm.MethodName)).before a0 Z = true := hw _ (List.mem_of_getElem? (i := 191) rfl)
set_option maxRecDepth 65536 in
theorem wd193 {Z : State} {a0 : Array Value} (hw : ∀ d ∈ tables_1, d.before a0 Z = true) : (Jvm.Cond.code ({ cls := "jdk/internal/util/ArraysSupport", name := "mismatch", desc := "([II[III)I" } : Jvm.MethodName) jdk_48_method_20_code (8 : Nat) (Option.some Jvm.ClassFile.FieldType.int)).before a0 Z = true := hw _ (List.mem_of_getElem? (i := 193) rfl)
theorem dAE_47 : Db jdk_65_method_84_code 47 (.ifCond .ge 7) 7 50 54 := ⟨by decide +kernel, rfl, by decide, by decide⟩
theorem dAE_50 : Dc jdk_65_method_84_code 50 (.iconst 1) 1 51 := ⟨by decide +kernel, rfl⟩
theorem dAE_51 : Db jdk_65_method_84_code 51 (.goto 4) 4 54 55 := ⟨by decide +kernel, rfl, by decide, by decide⟩
theorem dAE_55 : Dc jdk_65_method_84_code 55 .ireturn 1 56 := ⟨by decide +kernel, rfl⟩
theorem efAE (m : MethodId) (x0 : Addr) (x1 : Int32) (x2 : Int32) (x3 : Addr) (x4 : Int32) (x5 : Int32) : entryFrame m #[.ref x0, .int x1, .int x2, .ref x3, .int x4, .int x5] 8 = mkF m 0 #[.val (.ref x0), .val (.int x1), .val (.int x2), .val (.ref x3), .val (.int x4), .val (.int x5), .unset, .unset] [] := by first | (simp [entryFrame, mkF, argsToLocals, Value.category]; done) | rfl
theorem pnAE : plainFor (⟨"java/util/Arrays", "equals", "([III[III)Z"⟩ : MethodName) = true := plainFor_of_name (by first | (simp [plainName, overriddenIn]; done) | decide +kernel)
theorem dEQ_0 : Dc prog_23_method_11_code 0 (.aload_n 1) 1 1 := ⟨by decide +kernel, rfl⟩
theorem dEQ_1 : Dc prog_23_method_11_code 1 (.instanceof 8) 3 4 := ⟨by decide +kernel, rfl⟩
set_option maxRecDepth 65536 in
theorem wd181 {Z : State} {a0 : Array Value} (hw : ∀ d ∈ tables_1, d.before a0 Z = true) : (Jvm.Cond.classLink "com/example/horatius/horatius/core/PageSummary" (8 : Nat) "com/example/horatius/horatius/core/PageSummary").before a0 Z = true := hw _ (List.mem_of_getElem? (i := 181) rfl)
theorem dEQ_4 : Db prog_23_method_11_code 4 (.ifCond .eq 102) 102 7 106 := ⟨by decide +kernel, rfl, by decide, by decide⟩
theorem dEQ_7 : Dc prog_23_method_11_code 7 (.aload_n 1) 1 8 := ⟨by decide +kernel, rfl⟩
theorem dEQ_8 : Dc prog_23_method_11_code 8 (.checkcast 8) 3 11 := ⟨by decide +kernel, rfl⟩
theorem dEQ_11 : Dc prog_23_method_11_code 11 (.astore_n 2) 1 12 := ⟨by decide +kernel, rfl⟩
theorem dEQ_12 : Dc prog_23_method_11_code 12 (.aload_n 2) 1 13 := ⟨by decide +kernel, rfl⟩
theorem dEQ_13 : Dc prog_23_method_11_code 13 (.getfield 22) 3 16 := ⟨by decide +kernel, rfl⟩
theorem dEQ_16 : Dc prog_23_method_11_code 16 (.aload_n 0) 1 17 := ⟨by decide +kernel, rfl⟩
theorem dEQ_17 : Dc prog_23_method_11_code 17 (.getfield 22) 3 20 := ⟨by decide +kernel, rfl⟩
theorem dEQ_20 : Db prog_23_method_11_code 20 (.if_icmp .ne 86) 86 23 106 := ⟨by decide +kernel, rfl, by decide, by decide⟩
theorem dEQ_23 : Dc prog_23_method_11_code 23 (.aload_n 2) 1 24 := ⟨by decide +kernel, rfl⟩
theorem dEQ_24 : Dc prog_23_method_11_code 24 (.getfield 26) 3 27 := ⟨by decide +kernel, rfl⟩
theorem dEQ_27 : Dc prog_23_method_11_code 27 (.aload_n 0) 1 28 := ⟨by decide +kernel, rfl⟩
theorem dEQ_28 : Dc prog_23_method_11_code 28 (.getfield 26) 3 31 := ⟨by decide +kernel, rfl⟩
theorem dEQ_31 : Db prog_23_method_11_code 31 (.if_icmp .ne 75) 75 34 106 := ⟨by decide +kernel, rfl, by decide, by decide⟩
theorem dEQ_34 : Dc prog_23_method_11_code 34 (.aload_n 2) 1 35 := ⟨by decide +kernel, rfl⟩
theorem dEQ_35 : Dc prog_23_method_11_code 35 (.getfield 37) 3 38 := ⟨by decide +kernel, rfl⟩
theorem dEQ_38 : Dc prog_23_method_11_code 38 (.aload_n 0) 1 39 := ⟨by decide +kernel, rfl⟩
theorem dEQ_39 : Dc prog_23_method_11_code 39 (.getfield 37) 3 42 := ⟨by decide +kernel, rfl⟩
theorem dEQ_42 : Db prog_23_method_11_code 42 (.if_acmp .ne 64) 64 45 106 := ⟨by decide +kernel, rfl, by decide, by decide⟩
theorem dEQ_45 : Dc prog_23_method_11_code 45 (.aload_n 2) 1 46 := ⟨by decide +kernel, rfl⟩
theorem dEQ_46 : Dc prog_23_method_11_code 46 (.getfield 41) 3 49 := ⟨by decide +kernel, rfl⟩
theorem dEQ_49 : Dc prog_23_method_11_code 49 (.aload_n 0) 1 50 := ⟨by decide +kernel, rfl⟩
theorem dEQ_50 : Dc prog_23_method_11_code 50 (.getfield 41) 3 53 := ⟨by decide +kernel, rfl⟩
theorem dEQ_53 : Db prog_23_method_11_code 53 (.if_icmp .ne 53) 53 56 106 := ⟨by decide +kernel, rfl, by decide, by decide⟩
theorem dEQ_56 : Dc prog_23_method_11_code 56 (.aload_n 2) 1 57 := ⟨by decide +kernel, rfl⟩
theorem dEQ_57 : Dc prog_23_method_11_code 57 (.getfield 44) 3 60 := ⟨by decide +kernel, rfl⟩
theorem dEQ_60 : Dc prog_23_method_11_code 60 (.aload_n 0) 1 61 := ⟨by decide +kernel, rfl⟩
theorem dEQ_61 : Dc prog_23_method_11_code 61 (.getfield 44) 3 64 := ⟨by decide +kernel, rfl⟩
theorem dEQ_64 : Db prog_23_method_11_code 64 (.if_icmp .ne 42) 42 67 106 := ⟨by decide +kernel, rfl, by decide, by decide⟩
theorem dEQ_67 : Dc prog_23_method_11_code 67 (.aload_n 2) 1 68 := ⟨by decide +kernel, rfl⟩
theorem dEQ_68 : Dc prog_23_method_11_code 68 (.getfield 47) 3 71 := ⟨by decide +kernel, rfl⟩
theorem dEQ_71 : Dc prog_23_method_11_code 71 (.aload_n 0) 1 72 := ⟨by decide +kernel, rfl⟩
theorem dEQ_72 : Dc prog_23_method_11_code 72 (.getfield 47) 3 75 := ⟨by decide +kernel, rfl⟩
theorem dEQ_75 : Db prog_23_method_11_code 75 (.if_icmp .ne 31) 31 78 106 := ⟨by decide +kernel, rfl, by decide, by decide⟩
theorem dEQ_78 : Dc prog_23_method_11_code 78 (.aload_n 2) 1 79 := ⟨by decide +kernel, rfl⟩
theorem dEQ_79 : Dc prog_23_method_11_code 79 (.getfield 7) 3 82 := ⟨by decide +kernel, rfl⟩
theorem dEQ_82 : Dc prog_23_method_11_code 82 (.iconst 0) 1 83 := ⟨by decide +kernel, rfl⟩
theorem dEQ_83 : Dc prog_23_method_11_code 83 (.aload_n 2) 1 84 := ⟨by decide +kernel, rfl⟩
theorem dEQ_84 : Dc prog_23_method_11_code 84 (.getfield 55) 3 87 := ⟨by decide +kernel, rfl⟩
theorem dEQ_87 : Dc prog_23_method_11_code 87 (.aload_n 0) 1 88 := ⟨by decide +kernel, rfl⟩
theorem dEQ_88 : Dc prog_23_method_11_code 88 (.getfield 7) 3 91 := ⟨by decide +kernel, rfl⟩
theorem dEQ_91 : Dc prog_23_method_11_code 91 (.iconst 0) 1 92 := ⟨by decide +kernel, rfl⟩
theorem dEQ_92 : Dc prog_23_method_11_code 92 (.aload_n 0) 1 93 := ⟨by decide +kernel, rfl⟩
theorem dEQ_93 : Dc prog_23_method_11_code 93 (.getfield 55) 3 96 := ⟨by decide +kernel, rfl⟩
theorem dEQ_96 : Dc prog_23_method_11_code 96 (.invokestatic 88) 3 99 := ⟨by decide +kernel, rfl⟩
theorem pd_11 : parseMethodDescriptor "([III[III)Z" = some ⟨[(.array .int), .int, .int, (.array .int), .int, .int], some .boolean⟩ := by decide +kernel
set_option maxRecDepth 65536 in
theorem wd183 {Z : State} {a0 : Array Value} (hw : ∀ d ∈ tables_1, d.before a0 Z = true) : (Jvm.Cond.methodLink "com/example/horatius/horatius/core/PageSummary" (88 : Nat) ({ cls := "java/util/Arrays", name := "equals", desc := "([III[III)Z" } : Jvm.MethodName)).before a0 Z = true := hw _ (List.mem_of_getElem? (i := 183) rfl)
set_option maxRecDepth 65536 in
theorem wd184 {Z : State} {a0 : Array Value} (hw : ∀ d ∈ tables_1, d.before a0 Z = true) : (Jvm.Cond.static ({ cls := "java/util/Arrays", name := "equals", desc := "([III[III)Z" } : Jvm.MethodName)).before a0 Z = true := hw _ (List.mem_of_getElem? (i := 184) rfl)
set_option maxRecDepth 65536 in
theorem wd186 {Z : State} {a0 : Array Value} (hw : ∀ d ∈ tables_1, d.before a0 Z = true) : (Jvm.Cond.code ({ cls := "java/util/Arrays", name := "equals", desc := "([III[III)Z" } : Jvm.MethodName) jdk_65_method_84_code (8 : Nat) (Option.some Jvm.ClassFile.FieldType.boolean)).before a0 Z = true := hw _ (List.mem_of_getElem? (i := 186) rfl)
theorem dEQ_99 : Db prog_23_method_11_code 99 (.ifCond .eq 7) 7 102 106 := ⟨by decide +kernel, rfl, by decide, by decide⟩
theorem dEQ_102 : Dc prog_23_method_11_code 102 (.iconst 1) 1 103 := ⟨by decide +kernel, rfl⟩
theorem dEQ_103 : Db prog_23_method_11_code 103 (.goto 4) 4 106 107 := ⟨by decide +kernel, rfl, by decide, by decide⟩
theorem dEQ_107 : Dc prog_23_method_11_code 107 .ireturn 1 108 := ⟨by decide +kernel, rfl⟩
theorem efEQ (m : MethodId) (x0 : Addr) (x1 : Addr) : entryFrame m #[.ref x0, .ref x1] 3 = mkF m 0 #[.val (.ref x0), .val (.ref x1), .unset] [] := by first | (simp [entryFrame, mkF, argsToLocals, Value.category]; done) | rfl
theorem pnEQ : plainFor (⟨"com/example/horatius/horatius/core/PageSummary", "equals", "(Ljava/lang/Object;)Z"⟩ : MethodName) = true := plainFor_of_name (by first | (simp [plainName, overriddenIn]; done) | decide +kernel)
theorem dKD_0 : Dc prog_19_method_14_code 0 (.getstatic 170) 3 3 := ⟨by decide +kernel, rfl⟩
set_option maxRecDepth 65536 in
theorem wd143 {Z : State} {a0 : Array Value} (hw : ∀ d ∈ tables_1, d.before a0 Z = true) : (Jvm.Cond.fieldLink "com/example/horatius/horatius/core/OutlinePage" (170 : Nat) "com/example/horatius/horatius/core/OutlinePage" "KINDS" "[Lcom/example/horatius/horatius/core/NodeKind;").before a0 Z = true := hw _ (List.mem_of_getElem? (i := 143) rfl)
theorem dKD_3 : Dc prog_19_method_14_code 3 (.aload_n 0) 1 4 := ⟨by decide +kernel, rfl⟩
theorem dKD_4 : Dc prog_19_method_14_code 4 (.getfield 62) 3 7 := ⟨by decide +kernel, rfl⟩
theorem dKD_7 : Dc prog_19_method_14_code 7 (.iload_n 1) 1 8 := ⟨by decide +kernel, rfl⟩
theorem dKD_8 : Dc prog_19_method_14_code 8 .baload 1 9 := ⟨by decide +kernel, rfl⟩
theorem dKD_9 : Dc prog_19_method_14_code 9 (.bipush 7) 2 11 := ⟨by decide +kernel, rfl⟩
theorem dKD_11 : Dc prog_19_method_14_code 11 .iand 1 12 := ⟨by decide +kernel, rfl⟩
theorem dKD_12 : Dc prog_19_method_14_code 12 .aaload 1 13 := ⟨by decide +kernel, rfl⟩
theorem dKD_13 : Dc prog_19_method_14_code 13 .areturn 1 14 := ⟨by decide +kernel, rfl⟩
theorem efKD (m : MethodId) (x0 : Addr) (x1 : Int32) : entryFrame m #[.ref x0, .int x1] 2 = mkF m 0 #[.val (.ref x0), .val (.int x1)] [] := by first | (simp [entryFrame, mkF, argsToLocals, Value.category]; done) | rfl
theorem pnKD : plainFor (⟨"com/example/horatius/horatius/core/OutlinePage", "kind", "(I)Lcom/example/horatius/horatius/core/NodeKind;"⟩ : MethodName) = true := plainFor_of_name (by first | (simp [plainName, overriddenIn]; done) | decide +kernel)
theorem dAY_0 : Dc prog_19_method_16_code 0 (.aload_n 0) 1 1 := ⟨by decide +kernel, rfl⟩
theorem dAY_1 : Dc prog_19_method_16_code 1 (.iload_n 1) 1 2 := ⟨by decide +kernel, rfl⟩
theorem dAY_2 : Dc prog_19_method_16_code 2 (.invokevirtual 174) 3 5 := ⟨by decide +kernel, rfl⟩
set_option maxRecDepth 65536 in
theorem wd53 {Z : State} {a0 : Array Value} (hw : ∀ d ∈ tables_1, d.before a0 Z = true) : (Jvm.Cond.initialized "com/example/horatius/horatius/core/OutlinePage").before a0 Z = true := hw _ (List.mem_of_getElem? (i := 53) rfl)
theorem pd_12 : parseMethodDescriptor "(I)Lcom/example/horatius/horatius/core/NodeKind;" = some ⟨[.int], some (.object "com/example/horatius/horatius/core/NodeKind")⟩ := by decide +kernel
set_option maxRecDepth 65536 in
theorem wd150 {Z : State} {a0 : Array Value} (hw : ∀ d ∈ tables_1, d.before a0 Z = true) : (Jvm.Cond.methodLink "com/example/horatius/horatius/core/OutlinePage" (174 : Nat) ({ cls := "com/example/horatius/horatius/core/OutlinePage", name := "kind", desc := "(I)Lcom/example/horatius/horatius/core/NodeKind;" } : Jvm.MethodName)).before a0 Z = true := hw _ (List.mem_of_getElem? (i := 150) rfl)
set_option maxRecDepth 65536 in
theorem wd151 {Z : State} {a0 : Array Value} (hw : ∀ d ∈ tables_1, d.before a0 Z = true) : (Jvm.Cond.declares ({ cls := "com/example/horatius/horatius/core/OutlinePage", name := "kind", desc := "(I)Lcom/example/horatius/horatius/core/NodeKind;" } : Jvm.MethodName)).before a0 Z = true := hw _ (List.mem_of_getElem? (i := 151) rfl)
set_option maxRecDepth 65536 in
theorem wd153 {Z : State} {a0 : Array Value} (hw : ∀ d ∈ tables_1, d.before a0 Z = true) : (Jvm.Cond.selects "com/example/horatius/horatius/core/OutlinePage" ({ cls := "com/example/horatius/horatius/core/OutlinePage", name := "kind", desc := "(I)Lcom/example/horatius/horatius/core/NodeKind;" } : Jvm.MethodName) ({ cls := "com/example/horatius/horatius/core/OutlinePage", name := "kind", desc := "(I)Lcom/example/horatius/horatius/core/NodeKind;" } : Jvm.MethodName)).before a0 Z = true := hw _ (List.mem_of_getElem? (i := 153) rfl)
set_option maxRecDepth 65536 in
theorem wd152 {Z : State} {a0 : Array Value} (hw : ∀ d ∈ tables_1, d.before a0 Z = true) : (Jvm.Cond.instanceMethod ({ cls := "com/example/horatius/horatius/core/OutlinePage", name := "kind", desc := "(I)Lcom/example/horatius/horatius/core/NodeKind;" } : Jvm.MethodName)).before a0 Z = true := hw _ (List.mem_of_getElem? (i := 152) rfl)
set_option maxRecDepth 65536 in
theorem wd154 {Z : State} {a0 : Array Value} (hw : ∀ d ∈ tables_1, d.before a0 Z = true) : (Jvm.Cond.code ({ cls := "com/example/horatius/horatius/core/OutlinePage", name := "kind", desc := "(I)Lcom/example/horatius/horatius/core/NodeKind;" } : Jvm.MethodName) prog_19_method_14_code (2 : Nat) (Option.some (Jvm.ClassFile.FieldType.object "com/example/horatius/horatius/core/NodeKind"))).before a0 Z = true := hw _ (List.mem_of_getElem? (i := 154) rfl)
theorem dAY_5 : Dc prog_19_method_16_code 5 (.getstatic 121) 3 8 := ⟨by decide +kernel, rfl⟩
set_option maxRecDepth 65536 in
theorem wd155 {Z : State} {a0 : Array Value} (hw : ∀ d ∈ tables_1, d.before a0 Z = true) : (Jvm.Cond.fieldLink "com/example/horatius/horatius/core/OutlinePage" (121 : Nat) "com/example/horatius/horatius/core/NodeKind" "ATTRIBUTE" "Lcom/example/horatius/horatius/core/NodeKind;").before a0 Z = true := hw _ (List.mem_of_getElem? (i := 155) rfl)
theorem dAY_8 : Db prog_19_method_16_code 8 (.if_acmp .ne 21) 21 11 29 := ⟨by decide +kernel, rfl, by decide, by decide⟩
theorem dAY_29 : Dc prog_19_method_16_code 29 (.getstatic 182) 3 32 := ⟨by decide +kernel, rfl⟩
set_option maxRecDepth 65536 in
theorem wd157 {Z : State} {a0 : Array Value} (hw : ∀ d ∈ tables_1, d.before a0 Z = true) : (Jvm.Cond.fieldLink "com/example/horatius/horatius/core/OutlinePage" (182 : Nat) "com/example/horatius/horatius/core/AttributeType" "OTHER" "Lcom/example/horatius/horatius/core/AttributeType;").before a0 Z = true := hw _ (List.mem_of_getElem? (i := 157) rfl)
theorem dAY_32 : Dc prog_19_method_16_code 32 .areturn 1 33 := ⟨by decide +kernel, rfl⟩
theorem efAY (m : MethodId) (x0 : Addr) (x1 : Int32) : entryFrame m #[.ref x0, .int x1] 2 = mkF m 0 #[.val (.ref x0), .val (.int x1)] [] := by first | (simp [entryFrame, mkF, argsToLocals, Value.category]; done) | rfl
theorem pnAY : plainFor (⟨"com/example/horatius/horatius/core/OutlinePage", "attributeType", "(I)Lcom/example/horatius/horatius/core/AttributeType;"⟩ : MethodName) = true := plainFor_of_name (by first | (simp [plainName, overriddenIn]; done) | decide +kernel)
theorem dSA_0 : Dc prog_23_method_3_code 0 (.aload_n 0) 1 1 := ⟨by decide +kernel, rfl⟩
theorem dSA_1 : Dc prog_23_method_3_code 1 (.aload_n 0) 1 2 := ⟨by decide +kernel, rfl⟩
theorem dSA_2 : Dc prog_23_method_3_code 2 (.getfield 22) 3 5 := ⟨by decide +kernel, rfl⟩
theorem dSA_5 : Db prog_23_method_3_code 5 (.ifCond .ne 7) 7 8 12 := ⟨by decide +kernel, rfl, by decide, by decide⟩
theorem dSA_8 : Dc prog_23_method_3_code 8 (.iload_n 2) 1 9 := ⟨by decide +kernel, rfl⟩
theorem dSA_9 : Db prog_23_method_3_code 9 (.goto 11) 11 12 20 := ⟨by decide +kernel, rfl, by decide, by decide⟩
theorem dSA_12 : Dc prog_23_method_3_code 12 (.aload_n 0) 1 13 := ⟨by decide +kernel, rfl⟩
theorem dSA_13 : Dc prog_23_method_3_code 13 (.getfield 26) 3 16 := ⟨by decide +kernel, rfl⟩
theorem dSA_16 : Dc prog_23_method_3_code 16 (.iload_n 2) 1 17 := ⟨by decide +kernel, rfl⟩
theorem dSA_17 : Dc prog_23_method_3_code 17 (.invokestatic 58) 3 20 := ⟨by decide +kernel, rfl⟩
set_option maxRecDepth 65536 in
theorem wd229 {Z : State} {a0 : Array Value} (hw : ∀ d ∈ tables_1, d.before a0 Z = true) : (Jvm.Cond.methodLink "com/example/horatius/horatius/core/PageSummary" (58 : Nat) ({ cls := "java/lang/Math", name := "min", desc := "(II)I" } : Jvm.MethodName)).before a0 Z = true := hw _ (List.mem_of_getElem? (i := 229) rfl)
theorem dSA_20 : Dc prog_23_method_3_code 20 (.putfield 26) 3 23 := ⟨by decide +kernel, rfl⟩
theorem dSA_23 : Dc prog_23_method_3_code 23 (.aload_n 1) 1 24 := ⟨by decide +kernel, rfl⟩
theorem dSA_24 : Dc prog_23_method_3_code 24 (.getstatic 64) 3 27 := ⟨by decide +kernel, rfl⟩
set_option maxRecDepth 65536 in
theorem wd165 {Z : State} {a0 : Array Value} (hw : ∀ d ∈ tables_1, d.before a0 Z = true) : (Jvm.Cond.fieldLink "com/example/horatius/horatius/core/PageSummary" (64 : Nat) "com/example/horatius/horatius/core/NodeKind" "ELEMENT" "Lcom/example/horatius/horatius/core/NodeKind;").before a0 Z = true := hw _ (List.mem_of_getElem? (i := 165) rfl)
theorem dSA_27 : Db prog_23_method_3_code 27 (.if_acmp .ne 18) 18 30 45 := ⟨by decide +kernel, rfl, by decide, by decide⟩
theorem dSA_30 : Dc prog_23_method_3_code 30 (.iload_n 2) 1 31 := ⟨by decide +kernel, rfl⟩
theorem dSA_31 : Dc prog_23_method_3_code 31 (.iconst 1) 1 32 := ⟨by decide +kernel, rfl⟩
theorem dSA_32 : Db prog_23_method_3_code 32 (.if_icmp .ne 13) 13 35 45 := ⟨by decide +kernel, rfl, by decide, by decide⟩
theorem dSA_45 : Dc prog_23_method_3_code 45 (.aload_n 3) 1 46 := ⟨by decide +kernel, rfl⟩
theorem dSA_46 : Dc prog_23_method_3_code 46 (.getstatic 67) 3 49 := ⟨by decide +kernel, rfl⟩
set_option maxRecDepth 65536 in
theorem wd166 {Z : State} {a0 : Array Value} (hw : ∀ d ∈ tables_1, d.before a0 Z = true) : (Jvm.Cond.fieldLink "com/example/horatius/horatius/core/PageSummary" (67 : Nat) "com/example/horatius/horatius/core/AttributeType" "OTHER" "Lcom/example/horatius/horatius/core/AttributeType;").before a0 Z = true := hw _ (List.mem_of_getElem? (i := 166) rfl)
theorem dSA_49 : Db prog_23_method_3_code 49 (.if_acmp .eq 13) 13 52 62 := ⟨by decide +kernel, rfl, by decide, by decide⟩
theorem dSA_62 : Dc prog_23_method_3_code 62 (.aload_n 1) 1 63 := ⟨by decide +kernel, rfl⟩
theorem dSA_63 : Dc prog_23_method_3_code 63 (.getstatic 73) 3 66 := ⟨by decide +kernel, rfl⟩
set_option maxRecDepth 65536 in
theorem wd167 {Z : State} {a0 : Array Value} (hw : ∀ d ∈ tables_1, d.before a0 Z = true) : (Jvm.Cond.fieldLink "com/example/horatius/horatius/core/PageSummary" (73 : Nat) "com/example/horatius/horatius/core/NodeKind" "COMMENT" "Lcom/example/horatius/horatius/core/NodeKind;").before a0 Z = true := hw _ (List.mem_of_getElem? (i := 167) rfl)
theorem dSA_66 : Db prog_23_method_3_code 66 (.if_acmp .eq 10) 10 69 76 := ⟨by decide +kernel, rfl, by decide, by decide⟩
theorem dSA_69 : Dc prog_23_method_3_code 69 (.aload_n 1) 1 70 := ⟨by decide +kernel, rfl⟩
theorem dSA_70 : Dc prog_23_method_3_code 70 (.getstatic 76) 3 73 := ⟨by decide +kernel, rfl⟩
set_option maxRecDepth 65536 in
theorem wd169 {Z : State} {a0 : Array Value} (hw : ∀ d ∈ tables_1, d.before a0 Z = true) : (Jvm.Cond.fieldLink "com/example/horatius/horatius/core/PageSummary" (76 : Nat) "com/example/horatius/horatius/core/NodeKind" "PROCESSING_INSTRUCTION" "Lcom/example/horatius/horatius/core/NodeKind;").before a0 Z = true := hw _ (List.mem_of_getElem? (i := 169) rfl)
theorem dSA_73 : Db prog_23_method_3_code 73 (.if_acmp .ne 56) 56 76 129 := ⟨by decide +kernel, rfl, by decide, by decide⟩
theorem dSA_129 : Dc prog_23_method_3_code 129 (.aload_n 0) 1 130 := ⟨by decide +kernel, rfl⟩
theorem dSA_130 : Dc prog_23_method_3_code 130 (.aload_n 1) 1 131 := ⟨by decide +kernel, rfl⟩
theorem dSA_131 : Dc prog_23_method_3_code 131 (.putfield 37) 3 134 := ⟨by decide +kernel, rfl⟩
theorem dSA_134 : Dc prog_23_method_3_code 134 (.aload_n 0) 1 135 := ⟨by decide +kernel, rfl⟩
theorem dSA_135 : Dc prog_23_method_3_code 135 (.iload_n 2) 1 136 := ⟨by decide +kernel, rfl⟩
theorem dSA_136 : Dc prog_23_method_3_code 136 (.putfield 41) 3 139 := ⟨by decide +kernel, rfl⟩
theorem dSA_139 : Dc prog_23_method_3_code 139 (.aload_n 0) 1 140 := ⟨by decide +kernel, rfl⟩
theorem dSA_140 : Dc prog_23_method_3_code 140 .dup 1 141 := ⟨by decide +kernel, rfl⟩
theorem dSA_141 : Dc prog_23_method_3_code 141 (.getfield 22) 3 144 := ⟨by decide +kernel, rfl⟩
theorem dSA_144 : Dc prog_23_method_3_code 144 (.iconst 1) 1 145 := ⟨by decide +kernel, rfl⟩
theorem dSA_145 : Dc prog_23_method_3_code 145 .iadd 1 146 := ⟨by decide +kernel, rfl⟩
theorem dSA_146 : Dc prog_23_method_3_code 146 (.putfield 22) 3 149 := ⟨by decide +kernel, rfl⟩
theorem dSA_149 : Dc prog_23_method_3_code 149 .return_ 1 150 := ⟨by decide +kernel, rfl⟩
theorem efSA (m : MethodId) (x0 : Addr) (x1 : Addr) (x2 : Int32) (x3 : Addr) : entryFrame m #[.ref x0, .ref x1, .int x2, .ref x3] 4 = mkF m 0 #[.val (.ref x0), .val (.ref x1), .val (.int x2), .val (.ref x3)] [] := by first | (simp [entryFrame, mkF, argsToLocals, Value.category]; done) | rfl
theorem pnSA : plainFor (⟨"com/example/horatius/horatius/core/PageSummary", "add", "(Lcom/example/horatius/horatius/core/NodeKind;ILcom/example/horatius/horatius/core/AttributeType;)V"⟩ : MethodName) = true := plainFor_of_name (by first | (simp [plainName, overriddenIn]; done) | decide +kernel)
theorem dPH_0 : Dc prog_19_method_23_code 0 (.aload_n 0) 1 1 := ⟨by decide +kernel, rfl⟩
theorem dPH_1 : Dc prog_19_method_23_code 1 (.invokevirtual 118) 3 4 := ⟨by decide +kernel, rfl⟩
set_option maxRecDepth 65536 in
theorem wd116 {Z : State} {a0 : Array Value} (hw : ∀ d ∈ tables_1, d.before a0 Z = true) : (Jvm.Cond.methodLink "com/example/horatius/horatius/core/OutlinePage" (118 : Nat) ({ cls := "com/example/horatius/horatius/core/OutlinePage", name := "checkStarted", desc := "()V" } : Jvm.MethodName)).before a0 Z = true := hw _ (List.mem_of_getElem? (i := 116) rfl)
set_option maxRecDepth 65536 in
theorem wd118 {Z : State} {a0 : Array Value} (hw : ∀ d ∈ tables_1, d.before a0 Z = true) : (Jvm.Cond.privateMethod ({ cls := "com/example/horatius/horatius/core/OutlinePage", name := "checkStarted", desc := "()V" } : Jvm.MethodName)).before a0 Z = true := hw _ (List.mem_of_getElem? (i := 118) rfl)
set_option maxRecDepth 65536 in
theorem wd117 {Z : State} {a0 : Array Value} (hw : ∀ d ∈ tables_1, d.before a0 Z = true) : (Jvm.Cond.instanceMethod ({ cls := "com/example/horatius/horatius/core/OutlinePage", name := "checkStarted", desc := "()V" } : Jvm.MethodName)).before a0 Z = true := hw _ (List.mem_of_getElem? (i := 117) rfl)
set_option maxRecDepth 65536 in
theorem wd119 {Z : State} {a0 : Array Value} (hw : ∀ d ∈ tables_1, d.before a0 Z = true) : (Jvm.Cond.code ({ cls := "com/example/horatius/horatius/core/OutlinePage", name := "checkStarted", desc := "()V" } : Jvm.MethodName) prog_19_method_26_code (1 : Nat) (Option.none : Option Jvm.ClassFile.FieldType)).before a0 Z = true := hw _ (List.mem_of_getElem? (i := 119) rfl)
theorem dPH_4 : Dc prog_19_method_23_code 4 (.iload_n 2) 1 5 := ⟨by decide +kernel, rfl⟩
theorem dPH_5 : Dc prog_19_method_23_code 5 (.iconst 1) 1 6 := ⟨by decide +kernel, rfl⟩
theorem dPH_6 : Db prog_19_method_23_code 6 (.if_icmp .lt 16) 16 9 22 := ⟨by decide +kernel, rfl, by decide, by decide⟩
theorem dPH_9 : Dc prog_19_method_23_code 9 (.iload_n 2) 1 10 := ⟨by decide +kernel, rfl⟩
theorem dPH_10 : Dc prog_19_method_23_code 10 (.aload_n 0) 1 11 := ⟨by decide +kernel, rfl⟩
theorem dPH_11 : Dc prog_19_method_23_code 11 (.getfield 56) 3 14 := ⟨by decide +kernel, rfl⟩
theorem dPH_14 : Dc prog_19_method_23_code 14 (.aload_n 0) 1 15 := ⟨by decide +kernel, rfl⟩
theorem dPH_15 : Dc prog_19_method_23_code 15 (.getfield 97) 3 18 := ⟨by decide +kernel, rfl⟩
set_option maxRecDepth 65536 in
theorem wd122 {Z : State} {a0 : Array Value} (hw : ∀ d ∈ tables_1, d.before a0 Z = true) : (Jvm.Cond.fieldLink "com/example/horatius/horatius/core/OutlinePage" (97 : Nat) "com/example/horatius/horatius/core/OutlinePage" "openCount" "I").before a0 Z = true := hw _ (List.mem_of_getElem? (i := 122) rfl)
theorem dPH_18 : Dc prog_19_method_23_code 18 .iadd 1 19 := ⟨by decide +kernel, rfl⟩
theorem dPH_19 : Db prog_19_method_23_code 19 (.if_icmp .le 18) 18 22 37 := ⟨by decide +kernel, rfl, by decide, by decide⟩
theorem dPH_37 : Dc prog_19_method_23_code 37 (.aload_n 0) 1 38 := ⟨by decide +kernel, rfl⟩
theorem dPH_38 : Dc prog_19_method_23_code 38 (.getfield 56) 3 41 := ⟨by decide +kernel, rfl⟩
theorem dPH_41 : Dc prog_19_method_23_code 41 (.aload_n 0) 1 42 := ⟨by decide +kernel, rfl⟩
theorem dPH_42 : Dc prog_19_method_23_code 42 (.getfield 97) 3 45 := ⟨by decide +kernel, rfl⟩
theorem dPH_45 : Dc prog_19_method_23_code 45 .iadd 1 46 := ⟨by decide +kernel, rfl⟩
theorem dPH_46 : Dc prog_19_method_23_code 46 (.iload_n 2) 1 47 := ⟨by decide +kernel, rfl⟩
theorem dPH_47 : Db prog_19_method_23_code 47 (.if_icmp .le 56) 56 50 103 := ⟨by decide +kernel, rfl, by decide, by decide⟩
theorem dPH_103 : Dc prog_19_method_23_code 103 (.iload_n 2) 1 104 := ⟨by decide +kernel, rfl⟩
theorem dPH_104 : Dc prog_19_method_23_code 104 (.iconst 1) 1 105 := ⟨by decide +kernel, rfl⟩
theorem dPH_105 : Dc prog_19_method_23_code 105 .isub 1 106 := ⟨by decide +kernel, rfl⟩
theorem dPH_106 : Dc prog_19_method_23_code 106 (.aload_n 0) 1 107 := ⟨by decide +kernel, rfl⟩
theorem dPH_107 : Dc prog_19_method_23_code 107 (.getfield 56) 3 110 := ⟨by decide +kernel, rfl⟩
theorem dPH_110 : Db prog_19_method_23_code 110 (.if_icmp .ge 7) 7 113 117 := ⟨by decide +kernel, rfl, by decide, by decide⟩
theorem dPH_113 : Dc prog_19_method_23_code 113 (.iconst (-1)) 1 114 := ⟨by decide +kernel, rfl⟩
theorem dPH_114 : Db prog_19_method_23_code 114 (.goto 21) 21 117 135 := ⟨by decide +kernel, rfl, by decide, by decide⟩
theorem dPH_135 : Dc prog_19_method_23_code 135 .ireturn 1 136 := ⟨by decide +kernel, rfl⟩
theorem dPH_117 : Dc prog_19_method_23_code 117 (.aload_n 0) 1 118 := ⟨by decide +kernel, rfl⟩
theorem dPH_118 : Dc prog_19_method_23_code 118 (.getfield 24) 3 121 := ⟨by decide +kernel, rfl⟩
theorem dPH_121 : Dc prog_19_method_23_code 121 (.aload_n 0) 1 122 := ⟨by decide +kernel, rfl⟩
theorem dPH_122 : Dc prog_19_method_23_code 122 (.getfield 16) 3 125 := ⟨by decide +kernel, rfl⟩
theorem dPH_125 : Dc prog_19_method_23_code 125 (.iload_n 2) 1 126 := ⟨by decide +kernel, rfl⟩
theorem dPH_126 : Dc prog_19_method_23_code 126 (.iconst 1) 1 127 := ⟨by decide +kernel, rfl⟩
theorem dPH_127 : Dc prog_19_method_23_code 127 .isub 1 128 := ⟨by decide +kernel, rfl⟩
theorem dPH_128 : Dc prog_19_method_23_code 128 (.aload_n 0) 1 129 := ⟨by decide +kernel, rfl⟩
theorem dPH_129 : Dc prog_19_method_23_code 129 (.getfield 56) 3 132 := ⟨by decide +kernel, rfl⟩
theorem dPH_132 : Dc prog_19_method_23_code 132 .isub 1 133 := ⟨by decide +kernel, rfl⟩
theorem dPH_133 : Dc prog_19_method_23_code 133 .iaload 1 134 := ⟨by decide +kernel, rfl⟩
theorem dPH_134 : Dc prog_19_method_23_code 134 .iadd 1 135 := ⟨by decide +kernel, rfl⟩
theorem dPH_50 : Dc prog_19_method_23_code 50 (.aload_n 0) 1 51 := ⟨by decide +kernel, rfl⟩
theorem dPH_51 : Dc prog_19_method_23_code 51 (.getfield 97) 3 54 := ⟨by decide +kernel, rfl⟩
theorem dPH_54 : Db prog_19_method_23_code 54 (.ifCond .le 36) 36 57 90 := ⟨by decide +kernel, rfl, by decide, by decide⟩
theorem dPH_90 : Dc prog_19_method_23_code 90 (.aload_n 0) 1 91 := ⟨by decide +kernel, rfl⟩
theorem dPH_91 : Dc prog_19_method_23_code 91 .dup 1 92 := ⟨by decide +kernel, rfl⟩
theorem dPH_92 : Dc prog_19_method_23_code 92 (.getfield 56) 3 95 := ⟨by decide +kernel, rfl⟩
theorem dPH_95 : Dc prog_19_method_23_code 95 (.iconst 1) 1 96 := ⟨by decide +kernel, rfl⟩
theorem dPH_96 : Dc prog_19_method_23_code 96 .isub 1 97 := ⟨by decide +kernel, rfl⟩
theorem dPH_97 : Dc prog_19_method_23_code 97 (.putfield 56) 3 100 := ⟨by decide +kernel, rfl⟩
theorem dPH_100 : Db prog_19_method_23_code 100 (.goto (-63)) (-63) 103 37 := ⟨by decide +kernel, rfl, by decide, by decide⟩
theorem dPH_57 : Dc prog_19_method_23_code 57 (.aload_n 0) 1 58 := ⟨by decide +kernel, rfl⟩
theorem dPH_58 : Dc prog_19_method_23_code 58 (.getfield 75) 3 61 := ⟨by decide +kernel, rfl⟩
theorem dPH_61 : Dc prog_19_method_23_code 61 (.aload_n 0) 1 62 := ⟨by decide +kernel, rfl⟩
theorem dPH_62 : Dc prog_19_method_23_code 62 (.getfield 16) 3 65 := ⟨by decide +kernel, rfl⟩
theorem dPH_65 : Dc prog_19_method_23_code 65 (.aload_n 0) 1 66 := ⟨by decide +kernel, rfl⟩
theorem dPH_66 : Dc prog_19_method_23_code 66 .dup 1 67 := ⟨by decide +kernel, rfl⟩
theorem dPH_67 : Dc prog_19_method_23_code 67 (.getfield 97) 3 70 := ⟨by decide +kernel, rfl⟩
theorem dPH_70 : Dc prog_19_method_23_code 70 (.iconst 1) 1 71 := ⟨by decide +kernel, rfl⟩
theorem dPH_71 : Dc prog_19_method_23_code 71 .isub 1 72 := ⟨by decide +kernel, rfl⟩
theorem dPH_72 : Dc prog_19_method_23_code 72 .dup_x1 1 73 := ⟨by decide +kernel, rfl⟩
theorem dPH_73 : Dc prog_19_method_23_code 73 (.putfield 97) 3 76 := ⟨by decide +kernel, rfl⟩
theorem dPH_76 : Dc prog_19_method_23_code 76 .iaload 1 77 := ⟨by decide +kernel, rfl⟩
theorem dPH_77 : Dc prog_19_method_23_code 77 (.aload_n 0) 1 78 := ⟨by decide +kernel, rfl⟩
theorem dPH_78 : Dc prog_19_method_23_code 78 (.getfield 24) 3 81 := ⟨by decide +kernel, rfl⟩
theorem dPH_81 : Dc prog_19_method_23_code 81 (.aload_n 0) 1 82 := ⟨by decide +kernel, rfl⟩
theorem dPH_82 : Dc prog_19_method_23_code 82 (.getfield 78) 3 85 := ⟨by decide +kernel, rfl⟩
theorem dPH_85 : Dc prog_19_method_23_code 85 .iadd 1 86 := ⟨by decide +kernel, rfl⟩
theorem dPH_86 : Dc prog_19_method_23_code 86 .iastore 1 87 := ⟨by decide +kernel, rfl⟩
theorem dPH_87 : Db prog_19_method_23_code 87 (.goto (-50)) (-50) 90 37 := ⟨by decide +kernel, rfl, by decide, by decide⟩
theorem efPH (m : MethodId) (x0 : Addr) (x1 : Addr) (x2 : Int32) : entryFrame m #[.ref x0, .ref x1, .int x2] 3 = mkF m 0 #[.val (.ref x0), .val (.ref x1), .val (.int x2)] [] := by first | (simp [entryFrame, mkF, argsToLocals, Value.category]; done) | rfl
theorem pnPH : plainFor (⟨"com/example/horatius/horatius/core/OutlinePage", "placeChild", "(Lcom/example/horatius/horatius/core/NodeKind;I)I"⟩ : MethodName) = true := plainFor_of_name (by first | (simp [plainName, overriddenIn]; done) | decide +kernel)
theorem dAD_0 : Dc prog_19_method_27_code 0 (.aload_n 0) 1 1 := ⟨by decide +kernel, rfl⟩
theorem dAD_1 : Dc prog_19_method_27_code 1 (.getfield 163) 3 4 := ⟨by decide +kernel, rfl⟩
set_option maxRecDepth 65536 in
theorem wd141 {Z : State} {a0 : Array Value} (hw : ∀ d ∈ tables_1, d.before a0 Z = true) : (Jvm.Cond.fieldLink "com/example/horatius/horatius/core/OutlinePage" (163 : Nat) "com/example/horatius/horatius/core/OutlinePage" "ended" "Z").before a0 Z = true := hw _ (List.mem_of_getElem? (i := 141) rfl)
theorem dAD_4 : Db prog_19_method_27_code 4 (.ifCond .ne 15) 15 7 19 := ⟨by decide +kernel, rfl, by decide, by decide⟩
theorem dAD_7 : Dc prog_19_method_27_code 7 (.aload_n 0) 1 8 := ⟨by decide +kernel, rfl⟩
theorem dAD_8 : Dc prog_19_method_27_code 8 (.getfield 78) 3 11 := ⟨by decide +kernel, rfl⟩
theorem dAD_11 : Dc prog_19_method_27_code 11 (.aload_n 0) 1 12 := ⟨by decide +kernel, rfl⟩
theorem dAD_12 : Dc prog_19_method_27_code 12 (.getfield 62) 3 15 := ⟨by decide +kernel, rfl⟩
theorem dAD_15 : Dc prog_19_method_27_code 15 .arraylength 1 16 := ⟨by decide +kernel, rfl⟩
theorem dAD_16 : Db prog_19_method_27_code 16 (.if_icmp .ne 20) 20 19 36 := ⟨by decide +kernel, rfl, by decide, by decide⟩
theorem dAD_36 : Dc prog_19_method_27_code 36 (.getstatic 170) 3 39 := ⟨by decide +kernel, rfl⟩
theorem dAD_39 : Dc prog_19_method_27_code 39 (.iload_n 1) 1 40 := ⟨by decide +kernel, rfl⟩
theorem dAD_40 : Dc prog_19_method_27_code 40 (.bipush 7) 2 42 := ⟨by decide +kernel, rfl⟩
theorem dAD_42 : Dc prog_19_method_27_code 42 .iand 1 43 := ⟨by decide +kernel, rfl⟩
theorem dAD_43 : Dc prog_19_method_27_code 43 .aaload 1 44 := ⟨by decide +kernel, rfl⟩
theorem dAD_44 : Dc prog_19_method_27_code 44 (.astore 5) 2 46 := ⟨by decide +kernel, rfl⟩
theorem dAD_46 : Dc prog_19_method_27_code 46 (.aload_n 0) 1 47 := ⟨by decide +kernel, rfl⟩
theorem dAD_47 : Dc prog_19_method_27_code 47 (.getfield 62) 3 50 := ⟨by decide +kernel, rfl⟩
theorem dAD_50 : Dc prog_19_method_27_code 50 (.aload_n 0) 1 51 := ⟨by decide +kernel, rfl⟩
theorem dAD_51 : Dc prog_19_method_27_code 51 (.getfield 78) 3 54 := ⟨by decide +kernel, rfl⟩
theorem dAD_54 : Dc prog_19_method_27_code 54 (.iload_n 1) 1 55 := ⟨by decide +kernel, rfl⟩
theorem dAD_55 : Dc prog_19_method_27_code 55 .i2b 1 56 := ⟨by decide +kernel, rfl⟩
theorem dAD_56 : Dc prog_19_method_27_code 56 .bastore 1 57 := ⟨by decide +kernel, rfl⟩
theorem dAD_57 : Dc prog_19_method_27_code 57 (.aload_n 0) 1 58 := ⟨by decide +kernel, rfl⟩
theorem dAD_58 : Dc prog_19_method_27_code 58 (.getfield 66) 3 61 := ⟨by decide +kernel, rfl⟩
theorem dAD_61 : Dc prog_19_method_27_code 61 (.aload_n 0) 1 62 := ⟨by decide +kernel, rfl⟩
theorem dAD_62 : Dc prog_19_method_27_code 62 (.getfield 78) 3 65 := ⟨by decide +kernel, rfl⟩
theorem dAD_65 : Dc prog_19_method_27_code 65 (.iload_n 2) 1 66 := ⟨by decide +kernel, rfl⟩
theorem dAD_66 : Dc prog_19_method_27_code 66 .iastore 1 67 := ⟨by decide +kernel, rfl⟩
theorem dAD_67 : Dc prog_19_method_27_code 67 (.aload_n 0) 1 68 := ⟨by decide +kernel, rfl⟩
theorem dAD_68 : Dc prog_19_method_27_code 68 (.getfield 69) 3 71 := ⟨by decide +kernel, rfl⟩
theorem dAD_71 : Dc prog_19_method_27_code 71 (.aload_n 0) 1 72 := ⟨by decide +kernel, rfl⟩
theorem dAD_72 : Dc prog_19_method_27_code 72 (.getfield 78) 3 75 := ⟨by decide +kernel, rfl⟩
theorem dAD_75 : Dc prog_19_method_27_code 75 (.iload_n 3) 1 76 := ⟨by decide +kernel, rfl⟩
theorem dAD_76 : Dc prog_19_method_27_code 76 .iastore 1 77 := ⟨by decide +kernel, rfl⟩
theorem dAD_77 : Dc prog_19_method_27_code 77 (.aload_n 0) 1 78 := ⟨by decide +kernel, rfl⟩
theorem dAD_78 : Dc prog_19_method_27_code 78 (.getfield 72) 3 81 := ⟨by decide +kernel, rfl⟩
theorem dAD_81 : Dc prog_19_method_27_code 81 (.aload_n 0) 1 82 := ⟨by decide +kernel, rfl⟩
theorem dAD_82 : Dc prog_19_method_27_code 82 (.getfield 78) 3 85 := ⟨by decide +kernel, rfl⟩
theorem dAD_85 : Dc prog_19_method_27_code 85 (.iload 4) 2 87 := ⟨by decide +kernel, rfl⟩
theorem dAD_87 : Dc prog_19_method_27_code 87 .iastore 1 88 := ⟨by decide +kernel, rfl⟩
theorem dAD_88 : Dc prog_19_method_27_code 88 (.aload 5) 2 90 := ⟨by decide +kernel, rfl⟩
theorem dAD_90 : Dc prog_19_method_27_code 90 (.getstatic 48) 3 93 := ⟨by decide +kernel, rfl⟩
theorem dAD_93 : Db prog_19_method_27_code 93 (.if_acmp .eq 11) 11 96 104 := ⟨by decide +kernel, rfl, by decide, by decide⟩
theorem dAD_104 : Dc prog_19_method_27_code 104 (.iconst 1) 1 105 := ⟨by decide +kernel, rfl⟩
theorem dAD_105 : Db prog_19_method_27_code 105 (.goto 4) 4 108 109 := ⟨by decide +kernel, rfl, by decide, by decide⟩
theorem dAD_109 : Dc prog_19_method_27_code 109 (.istore 6) 2 111 := ⟨by decide +kernel, rfl⟩
theorem dAD_111 : Dc prog_19_method_27_code 111 (.aload_n 0) 1 112 := ⟨by decide +kernel, rfl⟩
theorem dAD_112 : Dc prog_19_method_27_code 112 (.getfield 75) 3 115 := ⟨by decide +kernel, rfl⟩
theorem dAD_115 : Dc prog_19_method_27_code 115 (.aload_n 0) 1 116 := ⟨by decide +kernel, rfl⟩
theorem dAD_116 : Dc prog_19_method_27_code 116 (.getfield 78) 3 119 := ⟨by decide +kernel, rfl⟩
theorem dAD_119 : Dc prog_19_method_27_code 119 (.iload 6) 2 121 := ⟨by decide +kernel, rfl⟩
theorem dAD_121 : Db prog_19_method_27_code 121 (.ifCond .eq 7) 7 124 128 := ⟨by decide +kernel, rfl, by decide, by decide⟩
theorem dAD_124 : Dc prog_19_method_27_code 124 (.iconst (-1)) 1 125 := ⟨by decide +kernel, rfl⟩
theorem dAD_125 : Db prog_19_method_27_code 125 (.goto 14) 14 128 139 := ⟨by decide +kernel, rfl, by decide, by decide⟩
theorem dAD_139 : Dc prog_19_method_27_code 139 .iastore 1 140 := ⟨by decide +kernel, rfl⟩
theorem dAD_140 : Dc prog_19_method_27_code 140 (.aload_n 0) 1 141 := ⟨by decide +kernel, rfl⟩
theorem dAD_141 : Dc prog_19_method_27_code 141 (.getfield 10) 3 144 := ⟨by decide +kernel, rfl⟩
theorem dAD_144 : Dc prog_19_method_27_code 144 (.aload 5) 2 146 := ⟨by decide +kernel, rfl⟩
theorem dAD_146 : Dc prog_19_method_27_code 146 (.iload_n 3) 1 147 := ⟨by decide +kernel, rfl⟩
theorem dAD_147 : Dc prog_19_method_27_code 147 (.aload_n 0) 1 148 := ⟨by decide +kernel, rfl⟩
theorem dAD_148 : Dc prog_19_method_27_code 148 (.aload_n 0) 1 149 := ⟨by decide +kernel, rfl⟩
theorem dAD_149 : Dc prog_19_method_27_code 149 (.getfield 78) 3 152 := ⟨by decide +kernel, rfl⟩
theorem dAD_152 : Dc prog_19_method_27_code 152 (.invokevirtual 204) 3 155 := ⟨by decide +kernel, rfl⟩
theorem pd_13 : parseMethodDescriptor "(I)Lcom/example/horatius/horatius/core/AttributeType;" = some ⟨[.int], some (.object "com/example/horatius/horatius/core/AttributeType")⟩ := by decide +kernel
set_option maxRecDepth 65536 in
theorem wd145 {Z : State} {a0 : Array Value} (hw : ∀ d ∈ tables_1, d.before a0 Z = true) : (Jvm.Cond.methodLink "com/example/horatius/horatius/core/OutlinePage" (204 : Nat) ({ cls := "com/example/horatius/horatius/core/OutlinePage", name := "attributeType", desc := "(I)Lcom/example/horatius/horatius/core/AttributeType;" } : Jvm.MethodName)).before a0 Z = true := hw _ (List.mem_of_getElem? (i := 145) rfl)
set_option maxRecDepth 65536 in
theorem wd146 {Z : State} {a0 : Array Value} (hw : ∀ d ∈ tables_1, d.before a0 Z = true) : (Jvm.Cond.declares ({ cls := "com/example/horatius/horatius/core/OutlinePage", name := "attributeType", desc := "(I)Lcom/example/horatius/horatius/core/AttributeType;" } : Jvm.MethodName)).before a0 Z = true := hw _ (List.mem_of_getElem? (i := 146) rfl)
set_option maxRecDepth 65536 in
theorem wd148 {Z : State} {a0 : Array Value} (hw : ∀ d ∈ tables_1, d.before a0 Z = true) : (Jvm.Cond.selects "com/example/horatius/horatius/core/OutlinePage" ({ cls := "com/example/horatius/horatius/core/OutlinePage", name := "attributeType", desc := "(I)Lcom/example/horatius/horatius/core/AttributeType;" } : Jvm.MethodName) ({ cls := "com/example/horatius/horatius/core/OutlinePage", name := "attributeType", desc := "(I)Lcom/example/horatius/horatius/core/AttributeType;" } : Jvm.MethodName)).before a0 Z = true := hw _ (List.mem_of_getElem? (i := 148) rfl)
set_option maxRecDepth 65536 in
theorem wd147 {Z : State} {a0 : Array Value} (hw : ∀ d ∈ tables_1, d.before a0 Z = true) : (Jvm.Cond.instanceMethod ({ cls := "com/example/horatius/horatius/core/OutlinePage", name := "attributeType", desc := "(I)Lcom/example/horatius/horatius/core/AttributeType;" } : Jvm.MethodName)).before a0 Z = true := hw _ (List.mem_of_getElem? (i := 147) rfl)
set_option maxRecDepth 65536 in
theorem wd149 {Z : State} {a0 : Array Value} (hw : ∀ d ∈ tables_1, d.before a0 Z = true) : (Jvm.Cond.code ({ cls := "com/example/horatius/horatius/core/OutlinePage", name := "attributeType", desc := "(I)Lcom/example/horatius/horatius/core/AttributeType;" } : Jvm.MethodName) prog_19_method_16_code (2 : Nat) (Option.some (Jvm.ClassFile.FieldType.object "com/example/horatius/horatius/core/AttributeType"))).before a0 Z = true := hw _ (List.mem_of_getElem? (i := 149) rfl)
theorem dAD_155 : Dc prog_19_method_27_code 155 (.invokevirtual 208) 3 158 := ⟨by decide +kernel, rfl⟩
theorem pd_14 : parseMethodDescriptor "(Lcom/example/horatius/horatius/core/NodeKind;ILcom/example/horatius/horatius/core/AttributeType;)V" = some ⟨[(.object "com/example/horatius/horatius/core/NodeKind"), .int, (.object "com/example/horatius/horatius/core/AttributeType")], none⟩ := by decide +kernel
set_option maxRecDepth 65536 in
theorem wd160 {Z : State} {a0 : Array Value} (hw : ∀ d ∈ tables_1, d.before a0 Z = true) : (Jvm.Cond.methodLink "com/example/horatius/horatius/core/OutlinePage" (208 : Nat) ({ cls := "com/example/horatius/horatius/core/PageSummary", name := "add", desc := "(Lcom/example/horatius/horatius/core/NodeKind;ILcom/example/horatius/horatius/core/AttributeType;)V" } : Jvm.MethodName)).before a0 Z = true := hw _ (List.mem_of_getElem? (i := 160) rfl)
set_option maxRecDepth 65536 in
theorem wd161 {Z : State} {a0 : Array Value} (hw : ∀ d ∈ tables_1, d.before a0 Z = true) : (Jvm.Cond.declares ({ cls := "com/example/horatius/horatius/core/PageSummary", name := "add", desc := "(Lcom/example/horatius/horatius/core/NodeKind;ILcom/example/horatius/horatius/core/AttributeType;)V" } : Jvm.MethodName)).before a0 Z = true := hw _ (List.mem_of_getElem? (i := 161) rfl)
set_option maxRecDepth 65536 in
theorem wd163 {Z : State} {a0 : Array Value} (hw : ∀ d ∈ tables_1, d.before a0 Z = true) : (Jvm.Cond.selects "com/example/horatius/horatius/core/PageSummary" ({ cls := "com/example/horatius/horatius/core/PageSummary", name := "add", desc := "(Lcom/example/horatius/horatius/core/NodeKind;ILcom/example/horatius/horatius/core/AttributeType;)V" } : Jvm.MethodName) ({ cls := "com/example/horatius/horatius/core/PageSummary", name := "add", desc := "(Lcom/example/horatius/horatius/core/NodeKind;ILcom/example/horatius/horatius/core/AttributeType;)V" } : Jvm.MethodName)).before a0 Z = true := hw _ (List.mem_of_getElem? (i := 163) rfl)
set_option maxRecDepth 65536 in
theorem wd162 {Z : State} {a0 : Array Value} (hw : ∀ d ∈ tables_1, d.before a0 Z = true) : (Jvm.Cond.instanceMethod ({ cls := "com/example/horatius/horatius/core/PageSummary", name := "add", desc := "(Lcom/example/horatius/horatius/core/NodeKind;ILcom/example/horatius/horatius/core/AttributeType;)V" } : Jvm.MethodName)).before a0 Z = true := hw _ (List.mem_of_getElem? (i := 162) rfl)
set_option maxRecDepth 65536 in
theorem wd164 {Z : State} {a0 : Array Value} (hw : ∀ d ∈ tables_1, d.before a0 Z = true) : (Jvm.Cond.code ({ cls := "com/example/horatius/horatius/core/PageSummary", name := "add", desc := "(Lcom/example/horatius/horatius/core/NodeKind;ILcom/example/horatius/horatius/core/AttributeType;)V" } : Jvm.MethodName) prog_23_method_3_code (4 : Nat) (Option.none : Option Jvm.ClassFile.FieldType)).before a0 Z = true := hw _ (List.mem_of_getElem? (i := 164) rfl)
theorem dAD_158 : Dc prog_19_method_27_code 158 (.aload_n 0) 1 159 := ⟨by decide +kernel, rfl⟩
theorem dAD_159 : Dc prog_19_method_27_code 159 (.aload 5) 2 161 := ⟨by decide +kernel, rfl⟩
theorem dAD_161 : Dc prog_19_method_27_code 161 (.putfield 37) 3 164 := ⟨by decide +kernel, rfl⟩
theorem dAD_164 : Dc prog_19_method_27_code 164 (.aload_n 0) 1 165 := ⟨by decide +kernel, rfl⟩
theorem dAD_165 : Dc prog_19_method_27_code 165 (.iload_n 3) 1 166 := ⟨by decide +kernel, rfl⟩
theorem dAD_166 : Dc prog_19_method_27_code 166 (.putfield 45) 3 169 := ⟨by decide +kernel, rfl⟩
theorem dAD_169 : Dc prog_19_method_27_code 169 (.aload_n 0) 1 170 := ⟨by decide +kernel, rfl⟩
theorem dAD_170 : Dc prog_19_method_27_code 170 .dup 1 171 := ⟨by decide +kernel, rfl⟩
theorem dAD_171 : Dc prog_19_method_27_code 171 (.getfield 78) 3 174 := ⟨by decide +kernel, rfl⟩
theorem dAD_174 : Dc prog_19_method_27_code 174 (.iconst 1) 1 175 := ⟨by decide +kernel, rfl⟩
theorem dAD_175 : Dc prog_19_method_27_code 175 .iadd 1 176 := ⟨by decide +kernel, rfl⟩
theorem dAD_176 : Dc prog_19_method_27_code 176 (.putfield 78) 3 179 := ⟨by decide +kernel, rfl⟩
theorem dAD_179 : Dc prog_19_method_27_code 179 .return_ 1 180 := ⟨by decide +kernel, rfl⟩
theorem efAD (m : MethodId) (x0 : Addr) (x1 : Int32) (x2 : Int32) (x3 : Int32) (x4 : Int32) : entryFrame m #[.ref x0, .int x1, .int x2, .int x3, .int x4] 7 = mkF m 0 #[.val (.ref x0), .val (.int x1), .val (.int x2), .val (.int x3), .val (.int x4), .unset, .unset] [] := by first | (simp [entryFrame, mkF, argsToLocals, Value.category]; done) | rfl
theorem pnAD : plainFor (⟨"com/example/horatius/horatius/core/OutlinePage", "add", "(IIII)V"⟩ : MethodName) = true := plainFor_of_name (by first | (simp [plainName, overriddenIn]; done) | decide +kernel)
theorem dEL_0 : Dc prog_19_method_3_code 0 (.aload_n 0) 1 1 := ⟨by decide +kernel, rfl⟩
theorem dEL_1 : Dc prog_19_method_3_code 1 (.getstatic 48) 3 4 := ⟨by decide +kernel, rfl⟩
theorem dEL_4 : Dc prog_19_method_3_code 4 (.iload_n 1) 1 5 := ⟨by decide +kernel, rfl⟩
theorem dEL_5 : Dc prog_19_method_3_code 5 (.invokevirtual 100) 3 8 := ⟨by decide +kernel, rfl⟩
theorem pd_15 : parseMethodDescriptor "(Lcom/example/horatius/horatius/core/NodeKind;I)I" = some ⟨[(.object "com/example/horatius/horatius/core/NodeKind"), .int], some .int⟩ := by decide +kernel
set_option maxRecDepth 65536 in
theorem wd112 {Z : State} {a0 : Array Value} (hw : ∀ d ∈ tables_1, d.before a0 Z = true) : (Jvm.Cond.methodLink "com/example/horatius/horatius/core/OutlinePage" (100 : Nat) ({ cls := "com/example/horatius/horatius/core/OutlinePage", name := "placeChild", desc := "(Lcom/example/horatius/horatius/core/NodeKind;I)I" } : Jvm.MethodName)).before a0 Z = true := hw _ (List.mem_of_getElem? (i := 112) rfl)
set_option maxRecDepth 65536 in
theorem wd114 {Z : State} {a0 : Array Value} (hw : ∀ d ∈ tables_1, d.before a0 Z = true) : (Jvm.Cond.privateMethod ({ cls := "com/example/horatius/horatius/core/OutlinePage", name := "placeChild", desc := "(Lcom/example/horatius/horatius/core/NodeKind;I)I" } : Jvm.MethodName)).before a0 Z = true := hw _ (List.mem_of_getElem? (i := 114) rfl)
set_option maxRecDepth 65536 in
theorem wd113 {Z : State} {a0 : Array Value} (hw : ∀ d ∈ tables_1, d.before a0 Z = true) : (Jvm.Cond.instanceMethod ({ cls := "com/example/horatius/horatius/core/OutlinePage", name := "placeChild", desc := "(Lcom/example/horatius/horatius/core/NodeKind;I)I" } : Jvm.MethodName)).before a0 Z = true := hw _ (List.mem_of_getElem? (i := 113) rfl)
set_option maxRecDepth 65536 in
theorem wd115 {Z : State} {a0 : Array Value} (hw : ∀ d ∈ tables_1, d.before a0 Z = true) : (Jvm.Cond.code ({ cls := "com/example/horatius/horatius/core/OutlinePage", name := "placeChild", desc := "(Lcom/example/horatius/horatius/core/NodeKind;I)I" } : Jvm.MethodName) prog_19_method_23_code (3 : Nat) (Option.some Jvm.ClassFile.FieldType.int)).before a0 Z = true := hw _ (List.mem_of_getElem? (i := 115) rfl)
theorem dEL_8 : Dc prog_19_method_3_code 8 (.istore 4) 2 10 := ⟨by decide +kernel, rfl⟩
theorem dEL_10 : Dc prog_19_method_3_code 10 (.iload_n 1) 1 11 := ⟨by decide +kernel, rfl⟩
theorem dEL_11 : Dc prog_19_method_3_code 11 (.iconst 1) 1 12 := ⟨by decide +kernel, rfl⟩
theorem dEL_12 : Db prog_19_method_3_code 12 (.if_icmp .ne 35) 35 15 47 := ⟨by decide +kernel, rfl, by decide, by decide⟩
theorem dEL_47 : Dc prog_19_method_3_code 47 (.aload_n 0) 1 48 := ⟨by decide +kernel, rfl⟩
theorem dEL_48 : Dc prog_19_method_3_code 48 (.getfield 78) 3 51 := ⟨by decide +kernel, rfl⟩
theorem dEL_51 : Dc prog_19_method_3_code 51 (.istore 5) 2 53 := ⟨by decide +kernel, rfl⟩
theorem dEL_53 : Dc prog_19_method_3_code 53 (.aload_n 0) 1 54 := ⟨by decide +kernel, rfl⟩
theorem dEL_54 : Dc prog_19_method_3_code 54 (.getstatic 48) 3 57 := ⟨by decide +kernel, rfl⟩
theorem dEL_57 : Dc prog_19_method_3_code 57 (.invokevirtual 90) 3 60 := ⟨by decide +kernel, rfl⟩
set_option maxRecDepth 65536 in
theorem wd124 {Z : State} {a0 : Array Value} (hw : ∀ d ∈ tables_1, d.before a0 Z = true) : (Jvm.Cond.methodLink "com/example/horatius/horatius/core/OutlinePage" (90 : Nat) ({ cls := "com/example/horatius/horatius/core/NodeKind", name := "ordinal", desc := "()I" } : Jvm.MethodName)).before a0 Z = true := hw _ (List.mem_of_getElem? (i := 124) rfl)
set_option maxRecDepth 65536 in
theorem wd125 {Z : State} {a0 : Array Value} (hw : ∀ d ∈ tables_1, d.before a0 Z = true) : (Jvm.Cond.sameMethod "com/example/horatius/horatius/core/NodeKind" "java/lang/Enum" "ordinal" "()I").before a0 Z = true := hw _ (List.mem_of_getElem? (i := 125) rfl)
set_option maxRecDepth 65536 in
theorem wd126 {Z : State} {a0 : Array Value} (hw : ∀ d ∈ tables_1, d.before a0 Z = true) : (Jvm.Cond.declares ({ cls := "java/lang/Enum", name := "ordinal", desc := "()I" } : Jvm.MethodName)).before a0 Z = true := hw _ (List.mem_of_getElem? (i := 126) rfl)
set_option maxRecDepth 65536 in
theorem wd128 {Z : State} {a0 : Array Value} (hw : ∀ d ∈ tables_1, d.before a0 Z = true) : (Jvm.Cond.selects "com/example/horatius/horatius/core/NodeKind" ({ cls := "com/example/horatius/horatius/core/NodeKind", name := "ordinal", desc := "()I" } : Jvm.MethodName) ({ cls := "java/lang/Enum", name := "ordinal", desc := "()I" } : Jvm.MethodName)).before a0 Z = true := hw _ (List.mem_of_getElem? (i := 128) rfl)
set_option maxRecDepth 65536 in
theorem wd127 {Z : State} {a0 : Array Value} (hw : ∀ d ∈ tables_1, d.before a0 Z = true) : (Jvm.Cond.instanceMethod ({ cls := "java/lang/Enum", name := "ordinal", desc := "()I" } : Jvm.MethodName)).before a0 Z = true := hw _ (List.mem_of_getElem? (i := 127) rfl)
set_option maxRecDepth 65536 in
theorem wd129 {Z : State} {a0 : Array Value} (hw : ∀ d ∈ tables_1, d.before a0 Z = true) : (Jvm.Cond.initialized "java/lang/Enum").before a0 Z = true := hw _ (List.mem_of_getElem? (i := 129) rfl)
set_option maxRecDepth 65536 in
theorem wd130 {Z : State} {a0 : Array Value} (hw : ∀ d ∈ tables_1, d.before a0 Z = true) : (Jvm.Cond.code ({ cls := "java/lang/Enum", name := "ordinal", desc := "()I" } : Jvm.MethodName) jdk_37_method_2_code (1 : Nat) (Option.some Jvm.ClassFile.FieldType.int)).before a0 Z = true := hw _ (List.mem_of_getElem? (i := 130) rfl)
theorem dEL_60 : Dc prog_19_method_3_code 60 (.iload_n 3) 1 61 := ⟨by decide +kernel, rfl⟩
theorem dEL_61 : Db prog_19_method_3_code 61 (.ifCond .eq 8) 8 64 69 := ⟨by decide +kernel, rfl, by decide, by decide⟩
theorem dEL_69 : Dc prog_19_method_3_code 69 (.iconst 0) 1 70 := ⟨by decide +kernel, rfl⟩
theorem dEL_64 : Dc prog_19_method_3_code 64 (.bipush 32) 2 66 := ⟨by decide +kernel, rfl⟩
theorem dEL_66 : Db prog_19_method_3_code 66 (.goto 4) 4 69 70 := ⟨by decide +kernel, rfl, by decide, by decide⟩
theorem dEL_70 : Dc prog_19_method_3_code 70 .ior 1 71 := ⟨by decide +kernel, rfl⟩
theorem dEL_71 : Dc prog_19_method_3_code 71 (.aload_n 0) 1 72 := ⟨by decide +kernel, rfl⟩
theorem dEL_72 : Dc prog_19_method_3_code 72 (.iload_n 2) 1 73 := ⟨by decide +kernel, rfl⟩
theorem dEL_73 : Dc prog_19_method_3_code 73 (.invokevirtual 108) 3 76 := ⟨by decide +kernel, rfl⟩
theorem pd_16 : parseMethodDescriptor "(I)I" = some ⟨[.int], some .int⟩ := by decide +kernel
set_option maxRecDepth 65536 in
theorem wd133 {Z : State} {a0 : Array Value} (hw : ∀ d ∈ tables_1, d.before a0 Z = true) : (Jvm.Cond.methodLink "com/example/horatius/horatius/core/OutlinePage" (108 : Nat) ({ cls := "com/example/horatius/horatius/core/OutlinePage", name := "checkedName", desc := "(I)I" } : Jvm.MethodName)).before a0 Z = true := hw _ (List.mem_of_getElem? (i := 133) rfl)
set_option maxRecDepth 65536 in
theorem wd135 {Z : State} {a0 : Array Value} (hw : ∀ d ∈ tables_1, d.before a0 Z = true) : (Jvm.Cond.privateMethod ({ cls := "com/example/horatius/horatius/core/OutlinePage", name := "checkedName", desc := "(I)I" } : Jvm.MethodName)).before a0 Z = true := hw _ (List.mem_of_getElem? (i := 135) rfl)
set_option maxRecDepth 65536 in
theorem wd134 {Z : State} {a0 : Array Value} (hw : ∀ d ∈ tables_1, d.before a0 Z = true) : (Jvm.Cond.instanceMethod ({ cls := "com/example/horatius/horatius/core/OutlinePage", name := "checkedName", desc := "(I)I" } : Jvm.MethodName)).before a0 Z = true := hw _ (List.mem_of_getElem? (i := 134) rfl)
set_option maxRecDepth 65536 in
theorem wd136 {Z : State} {a0 : Array Value} (hw : ∀ d ∈ tables_1, d.before a0 Z = true) : (Jvm.Cond.code ({ cls := "com/example/horatius/horatius/core/OutlinePage", name := "checkedName", desc := "(I)I" } : Jvm.MethodName) prog_19_method_25_code (2 : Nat) (Option.some Jvm.ClassFile.FieldType.int)).before a0 Z = true := hw _ (List.mem_of_getElem? (i := 136) rfl)
theorem dEL_76 : Dc prog_19_method_3_code 76 (.iload_n 1) 1 77 := ⟨by decide +kernel, rfl⟩
theorem dEL_77 : Dc prog_19_method_3_code 77 (.iload 4) 2 79 := ⟨by decide +kernel, rfl⟩
theorem dEL_79 : Dc prog_19_method_3_code 79 (.invokevirtual 93) 3 82 := ⟨by decide +kernel, rfl⟩
theorem pd_17 : parseMethodDescriptor "(IIII)V" = some ⟨[.int, .int, .int, .int], none⟩ := by decide +kernel
set_option maxRecDepth 65536 in
theorem wd137 {Z : State} {a0 : Array Value} (hw : ∀ d ∈ tables_1, d.before a0 Z = true) : (Jvm.Cond.methodLink "com/example/horatius/horatius/core/OutlinePage" (93 : Nat) ({ cls := "com/example/horatius/horatius/core/OutlinePage", name := "add", desc := "(IIII)V" } : Jvm.MethodName)).before a0 Z = true := hw _ (List.mem_of_getElem? (i := 137) rfl)
set_option maxRecDepth 65536 in
theorem wd139 {Z : State} {a0 : Array Value} (hw : ∀ d ∈ tables_1, d.before a0 Z = true) : (Jvm.Cond.privateMethod ({ cls := "com/example/horatius/horatius/core/OutlinePage", name := "add", desc := "(IIII)V" } : Jvm.MethodName)).before a0 Z = true := hw _ (List.mem_of_getElem? (i := 139) rfl)
set_option maxRecDepth 65536 in
theorem wd138 {Z : State} {a0 : Array Value} (hw : ∀ d ∈ tables_1, d.before a0 Z = true) : (Jvm.Cond.instanceMethod ({ cls := "com/example/horatius/horatius/core/OutlinePage", name := "add", desc := "(IIII)V" } : Jvm.MethodName)).before a0 Z = true := hw _ (List.mem_of_getElem? (i := 138) rfl)
set_option maxRecDepth 65536 in
theorem wd140 {Z : State} {a0 : Array Value} (hw : ∀ d ∈ tables_1, d.before a0 Z = true) : (Jvm.Cond.code ({ cls := "com/example/horatius/horatius/core/OutlinePage", name := "add", desc := "(IIII)V" } : Jvm.MethodName) prog_19_method_27_code (7 : Nat) (Option.none : Option Jvm.ClassFile.FieldType)).before a0 Z = true := hw _ (List.mem_of_getElem? (i := 140) rfl)
theorem dEL_82 : Dc prog_19_method_3_code 82 (.aload_n 0) 1 83 := ⟨by decide +kernel, rfl⟩
theorem dEL_83 : Dc prog_19_method_3_code 83 (.getfield 97) 3 86 := ⟨by decide +kernel, rfl⟩
theorem dEL_86 : Dc prog_19_method_3_code 86 (.aload_n 0) 1 87 := ⟨by decide +kernel, rfl⟩
theorem dEL_87 : Dc prog_19_method_3_code 87 (.getfield 16) 3 90 := ⟨by decide +kernel, rfl⟩
theorem dEL_90 : Dc prog_19_method_3_code 90 .arraylength 1 91 := ⟨by decide +kernel, rfl⟩
theorem dEL_91 : Db prog_19_method_3_code 91 (.if_icmp .ne 20) 20 94 111 := ⟨by decide +kernel, rfl, by decide, by decide⟩
theorem dEL_111 : Dc prog_19_method_3_code 111 (.aload_n 0) 1 112 := ⟨by decide +kernel, rfl⟩
theorem dEL_112 : Dc prog_19_method_3_code 112 (.getfield 16) 3 115 := ⟨by decide +kernel, rfl⟩
theorem dEL_115 : Dc prog_19_method_3_code 115 (.aload_n 0) 1 116 := ⟨by decide +kernel, rfl⟩
theorem dEL_116 : Dc prog_19_method_3_code 116 .dup 1 117 := ⟨by decide +kernel, rfl⟩
theorem dEL_117 : Dc prog_19_method_3_code 117 (.getfield 97) 3 120 := ⟨by decide +kernel, rfl⟩
theorem dEL_120 : Dc prog_19_method_3_code 120 .dup_x1 1 121 := ⟨by decide +kernel, rfl⟩
theorem dEL_121 : Dc prog_19_method_3_code 121 (.iconst 1) 1 122 := ⟨by decide +kernel, rfl⟩
theorem dEL_122 : Dc prog_19_method_3_code 122 .iadd 1 123 := ⟨by decide +kernel, rfl⟩
theorem dEL_123 : Dc prog_19_method_3_code 123 (.putfield 97) 3 126 := ⟨by decide +kernel, rfl⟩
theorem dEL_126 : Dc prog_19_method_3_code 126 (.iload 5) 2 128 := ⟨by decide +kernel, rfl⟩
theorem dEL_128 : Dc prog_19_method_3_code 128 .iastore 1 129 := ⟨by decide +kernel, rfl⟩
theorem dEL_129 : Dc prog_19_method_3_code 129 .return_ 1 130 := ⟨by decide +kernel, rfl⟩
theorem efEL (m : MethodId) (x0 : Addr) (x1 : Int32) (x2 : Int32) (x3 : Int32) : entryFrame m #[.ref x0, .int x1, .int x2, .int x3] 6 = mkF m 0 #[.val (.ref x0), .val (.int x1), .val (.int x2), .val (.int x3), .unset, .unset] [] := by first | (simp [entryFrame, mkF, argsToLocals, Value.category]; done) | rfl
theorem pnEL : plainFor (⟨"com/example/horatius/horatius/core/OutlinePage", "addElement", "(IIZ)V"⟩ : MethodName) = true := plainFor_of_name (by first | (simp [plainName, overriddenIn]; done) | decide +kernel)
theorem dSH_0 : Dc prog_19_method_9_code 0 (.bipush 8) 2 2 := ⟨by decide +kernel, rfl⟩
theorem dSH_2 : Dc prog_19_method_9_code 2 (.newarray .int) 2 4 := ⟨by decide +kernel, rfl⟩
theorem dSH_4 : Dc prog_19_method_9_code 4 (.astore 4) 2 6 := ⟨by decide +kernel, rfl⟩
theorem dSH_6 : Dc prog_19_method_9_code 6 (.iconst 0) 1 7 := ⟨by decide +kernel, rfl⟩
theorem dSH_7 : Dc prog_19_method_9_code 7 (.istore 5) 2 9 := ⟨by decide +kernel, rfl⟩
theorem dSH_9 : Dc prog_19_method_9_code 9 (.ldc 169) 2 11 := ⟨by decide +kernel, rfl⟩
set_option maxRecDepth 65536 in
theorem wd198 {Z : State} {a0 : Array Value} (hw : ∀ d ∈ tables_1, d.before a0 Z = true) : (Jvm.Cond.constant "com/example/horatius/horatius/core/OutlinePage" (169 : Nat) (2147483647 : Int32)).before a0 Z = true := hw _ (List.mem_of_getElem? (i := 198) rfl)
theorem dSH_11 : Dc prog_19_method_9_code 11 (.istore 6) 2 13 := ⟨by decide +kernel, rfl⟩
theorem dSH_13 : Dc prog_19_method_9_code 13 (.iload_n 1) 1 14 := ⟨by decide +kernel, rfl⟩
theorem dSH_14 : Dc prog_19_method_9_code 14 (.istore 7) 2 16 := ⟨by decide +kernel, rfl⟩
theorem dSH_16 : Dc prog_19_method_9_code 16 (.iload 7) 2 18 := ⟨by decide +kernel, rfl⟩
theorem dSH_18 : Dc prog_19_method_9_code 18 (.iload_n 2) 1 19 := ⟨by decide +kernel, rfl⟩
theorem dSH_19 : Db prog_19_method_9_code 19 (.if_icmp .eq 62) 62 22 81 := ⟨by decide +kernel, rfl, by decide, by decide⟩
theorem dSH_81 : Dc prog_19_method_9_code 81 (.aload 4) 2 83 := ⟨by decide +kernel, rfl⟩
theorem dSH_83 : Dc prog_19_method_9_code 83 (.iload 5) 2 85 := ⟨by decide +kernel, rfl⟩
theorem dSH_85 : Dc prog_19_method_9_code 85 (.invokestatic 112) 3 88 := ⟨by decide +kernel, rfl⟩
theorem pd_18 : parseMethodDescriptor "([II)[I" = some ⟨[(.array .int), .int], some (.array .int)⟩ := by decide +kernel
set_option maxRecDepth 65536 in
theorem wd199 {Z : State} {a0 : Array Value} (hw : ∀ d ∈ tables_1, d.before a0 Z = true) : (Jvm.Cond.methodLink "com/example/horatius/horatius/core/OutlinePage" (112 : Nat) ({ cls := "java/util/Arrays", name := "copyOf", desc := "([II)[I" } : Jvm.MethodName)).before a0 Z = true := hw _ (List.mem_of_getElem? (i := 199) rfl)
set_option maxRecDepth 65536 in
theorem wd200 {Z : State} {a0 : Array Value} (hw : ∀ d ∈ tables_1, d.before a0 Z = true) : (Jvm.Cond.static ({ cls := "java/util/Arrays", name := "copyOf", desc := "([II)[I" } : Jvm.MethodName)).before a0 Z = true := hw _ (List.mem_of_getElem? (i := 200) rfl)
set_option maxRecDepth 65536 in
theorem wd201 {Z : State} {a0 : Array Value} (hw : ∀ d ∈ tables_1, d.before a0 Z = true) : (Jvm.Cond.code ({ cls := "java/util/Arrays", name := "copyOf", desc := "([II)[I" } : Jvm.MethodName) jdk_65_method_123_code (3 : Nat) (Option.some (Jvm.ClassFile.FieldType.array Jvm.ClassFile.FieldType.int))).before a0 Z = true := hw _ (List.mem_of_getElem? (i := 201) rfl)
theorem dSH_88 : Dc prog_19_method_9_code 88 .areturn 1 89 := ⟨by decide +kernel, rfl⟩
theorem dSH_22 : Dc prog_19_method_9_code 22 (.aload_n 0) 1 23 := ⟨by decide +kernel, rfl⟩
theorem dSH_23 : Dc prog_19_method_9_code 23 (.getfield 69) 3 26 := ⟨by decide +kernel, rfl⟩
theorem dSH_26 : Dc prog_19_method_9_code 26 (.iload 7) 2 28 := ⟨by decide +kernel, rfl⟩
theorem dSH_28 : Dc prog_19_method_9_code 28 .iaload 1 29 := ⟨by decide +kernel, rfl⟩
theorem dSH_29 : Dc prog_19_method_9_code 29 (.iload 6) 2 31 := ⟨by decide +kernel, rfl⟩
theorem dSH_31 : Db prog_19_method_9_code 31 (.if_icmp .ge 41) 41 34 72 := ⟨by decide +kernel, rfl, by decide, by decide⟩
theorem dSH_34 : Dc prog_19_method_9_code 34 (.aload_n 0) 1 35 := ⟨by decide +kernel, rfl⟩
theorem dSH_35 : Dc prog_19_method_9_code 35 (.getfield 69) 3 38 := ⟨by decide +kernel, rfl⟩
theorem dSH_38 : Dc prog_19_method_9_code 38 (.iload 7) 2 40 := ⟨by decide +kernel, rfl⟩
theorem dSH_40 : Dc prog_19_method_9_code 40 .iaload 1 41 := ⟨by decide +kernel, rfl⟩
theorem dSH_41 : Dc prog_19_method_9_code 41 (.istore 6) 2 43 := ⟨by decide +kernel, rfl⟩
theorem dSH_43 : Dc prog_19_method_9_code 43 (.iload 5) 2 45 := ⟨by decide +kernel, rfl⟩
theorem dSH_45 : Dc prog_19_method_9_code 45 (.aload 4) 2 47 := ⟨by decide +kernel, rfl⟩
theorem dSH_47 : Dc prog_19_method_9_code 47 .arraylength 1 48 := ⟨by decide +kernel, rfl⟩
theorem dSH_48 : Db prog_19_method_9_code 48 (.if_icmp .ne 14) 14 51 62 := ⟨by decide +kernel, rfl, by decide, by decide⟩
theorem dSH_62 : Dc prog_19_method_9_code 62 (.aload 4) 2 64 := ⟨by decide +kernel, rfl⟩
theorem dSH_64 : Dc prog_19_method_9_code 64 (.iload 5) 2 66 := ⟨by decide +kernel, rfl⟩
theorem dSH_66 : Dc prog_19_method_9_code 66 (.iinc 5 1) 3 69 := ⟨by decide +kernel, rfl⟩
theorem dSH_69 : Dc prog_19_method_9_code 69 (.iload 7) 2 71 := ⟨by decide +kernel, rfl⟩
theorem dSH_71 : Dc prog_19_method_9_code 71 .iastore 1 72 := ⟨by decide +kernel, rfl⟩
theorem dSH_72 : Dc prog_19_method_9_code 72 (.iload 7) 2 74 := ⟨by decide +kernel, rfl⟩
theorem dSH_74 : Dc prog_19_method_9_code 74 (.iload_n 3) 1 75 := ⟨by decide +kernel, rfl⟩
theorem dSH_75 : Dc prog_19_method_9_code 75 .iadd 1 76 := ⟨by decide +kernel, rfl⟩
theorem dSH_76 : Dc prog_19_method_9_code 76 (.istore 7) 2 78 := ⟨by decide +kernel, rfl⟩
theorem dSH_78 : Db prog_19_method_9_code 78 (.goto (-62)) (-62) 81 16 := ⟨by decide +kernel, rfl, by decide, by decide⟩
theorem efSH (m : MethodId) (x0 : Addr) (x1 : Int32) (x2 : Int32) (x3 : Int32) : entryFrame m #[.ref x0, .int x1, .int x2, .int x3] 8 = mkF m 0 #[.val (.ref x0), .val (.int x1), .val (.int x2), .val (.int x3), .unset, .unset, .unset, .unset] [] := by first | (simp [entryFrame, mkF, argsToLocals, Value.category]; done) | rfl
theorem pnSH : plainFor (⟨"com/example/horatius/horatius/core/OutlinePage", "shallowest", "(III)[I"⟩ : MethodName) = true := plainFor_of_name (by first | (simp [plainName, overriddenIn]; done) | decide +kernel)
theorem dEN_0 : Dc prog_19_method_8_code 0 (.aload_n 0) 1 1 := ⟨by decide +kernel, rfl⟩
theorem dEN_1 : Dc prog_19_method_8_code 1 (.getfield 10) 3 4 := ⟨by decide +kernel, rfl⟩
theorem dEN_4 : Dc prog_19_method_8_code 4 (.aload_n 0) 1 5 := ⟨by decide +kernel, rfl⟩
theorem dEN_5 : Dc prog_19_method_8_code 5 (.getfield 27) 3 8 := ⟨by decide +kernel, rfl⟩
theorem dEN_8 : Dc prog_19_method_8_code 8 (.invokevirtual 144) 3 11 := ⟨by decide +kernel, rfl⟩
theorem pd_19 : parseMethodDescriptor "(Ljava/lang/Object;)Z" = some ⟨[(.object "java/lang/Object")], some .boolean⟩ := by decide +kernel
set_option maxRecDepth 65536 in
theorem wd176 {Z : State} {a0 : Array Value} (hw : ∀ d ∈ tables_1, d.before a0 Z = true) : (Jvm.Cond.methodLink "com/example/horatius/horatius/core/OutlinePage" (144 : Nat) ({ cls := "com/example/horatius/horatius/core/PageSummary", name := "equals", desc := "(Ljava/lang/Object;)Z" } : Jvm.MethodName)).before a0 Z = true := hw _ (List.mem_of_getElem? (i := 176) rfl)
set_option maxRecDepth 65536 in
theorem wd177 {Z : State} {a0 : Array Value} (hw : ∀ d ∈ tables_1, d.before a0 Z = true) : (Jvm.Cond.declares ({ cls := "com/example/horatius/horatius/core/PageSummary", name := "equals", desc := "(Ljava/lang/Object;)Z" } : Jvm.MethodName)).before a0 Z = true := hw _ (List.mem_of_getElem? (i := 177) rfl)
set_option maxRecDepth 65536 in
theorem wd179 {Z : State} {a0 : Array Value} (hw : ∀ d ∈ tables_1, d.before a0 Z = true) : (Jvm.Cond.selects "com/example/horatius/horatius/core/PageSummary" ({ cls := "com/example/horatius/horatius/core/PageSummary", name := "equals", desc := "(Ljava/lang/Object;)Z" } : Jvm.MethodName) ({ cls := "com/example/horatius/horatius/core/PageSummary", name := "equals", desc := "(Ljava/lang/Object;)Z" } : Jvm.MethodName)).before a0 Z = true := hw _ (List.mem_of_getElem? (i := 179) rfl)
set_option maxRecDepth 65536 in
theorem wd178 {Z : State} {a0 : Array Value} (hw : ∀ d ∈ tables_1, d.before a0 Z = true) : (Jvm.Cond.instanceMethod ({ cls := "com/example/horatius/horatius/core/PageSummary", name := "equals", desc := "(Ljava/lang/Object;)Z" } : Jvm.MethodName)).before a0 Z = true := hw _ (List.mem_of_getElem? (i := 178) rfl)
set_option maxRecDepth 65536 in
theorem wd180 {Z : State} {a0 : Array Value} (hw : ∀ d ∈ tables_1, d.before a0 Z = true) : (Jvm.Cond.code ({ cls := "com/example/horatius/horatius/core/PageSummary", name := "equals", desc := "(Ljava/lang/Object;)Z" } : Jvm.MethodName) prog_23_method_11_code (3 : Nat) (Option.some Jvm.ClassFile.FieldType.boolean)).before a0 Z = true := hw _ (List.mem_of_getElem? (i := 180) rfl)
theorem dEN_11 : Db prog_19_method_8_code 11 (.ifCond .ne 20) 20 14 31 := ⟨by decide +kernel, rfl, by decide, by decide⟩
theorem dEN_31 : Dc prog_19_method_8_code 31 (.aload_n 0) 1 32 := ⟨by decide +kernel, rfl⟩
theorem dEN_32 : Dc prog_19_method_8_code 32 (.aload_n 0) 1 33 := ⟨by decide +kernel, rfl⟩
theorem dEN_33 : Dc prog_19_method_8_code 33 (.iconst 0) 1 34 := ⟨by decide +kernel, rfl⟩
theorem dEN_34 : Dc prog_19_method_8_code 34 (.aload_n 0) 1 35 := ⟨by decide +kernel, rfl⟩
theorem dEN_35 : Dc prog_19_method_8_code 35 (.getfield 78) 3 38 := ⟨by decide +kernel, rfl⟩
theorem dEN_38 : Dc prog_19_method_8_code 38 (.iconst 1) 1 39 := ⟨by decide +kernel, rfl⟩
theorem dEN_39 : Dc prog_19_method_8_code 39 (.invokevirtual 149) 3 42 := ⟨by decide +kernel, rfl⟩
theorem pd_20 : parseMethodDescriptor "(III)[I" = some ⟨[.int, .int, .int], some (.array .int)⟩ := by decide +kernel
set_option maxRecDepth 65536 in
theorem wd194 {Z : State} {a0 : Array Value} (hw : ∀ d ∈ tables_1, d.before a0 Z = true) : (Jvm.Cond.methodLink "com/example/horatius/horatius/core/OutlinePage" (149 : Nat) ({ cls := "com/example/horatius/horatius/core/OutlinePage", name := "shallowest", desc := "(III)[I" } : Jvm.MethodName)).before a0 Z = true := hw _ (List.mem_of_getElem? (i := 194) rfl)
set_option maxRecDepth 65536 in
theorem wd196 {Z : State} {a0 : Array Value} (hw : ∀ d ∈ tables_1, d.before a0 Z = true) : (Jvm.Cond.privateMethod ({ cls := "com/example/horatius/horatius/core/OutlinePage", name := "shallowest", desc := "(III)[I" } : Jvm.MethodName)).before a0 Z = true := hw _ (List.mem_of_getElem? (i := 196) rfl)
set_option maxRecDepth 65536 in
theorem wd195 {Z : State} {a0 : Array Value} (hw : ∀ d ∈ tables_1, d.before a0 Z = true) : (Jvm.Cond.instanceMethod ({ cls := "com/example/horatius/horatius/core/OutlinePage", name := "shallowest", desc := "(III)[I" } : Jvm.MethodName)).before a0 Z = true := hw _ (List.mem_of_getElem? (i := 195) rfl)
set_option maxRecDepth 65536 in
theorem wd197 {Z : State} {a0 : Array Value} (hw : ∀ d ∈ tables_1, d.before a0 Z = true) : (Jvm.Cond.code ({ cls := "com/example/horatius/horatius/core/OutlinePage", name := "shallowest", desc := "(III)[I" } : Jvm.MethodName) prog_19_method_9_code (8 : Nat) (Option.some (Jvm.ClassFile.FieldType.array Jvm.ClassFile.FieldType.int))).before a0 Z = true := hw _ (List.mem_of_getElem? (i := 197) rfl)
theorem dEN_42 : Dc prog_19_method_8_code 42 (.putfield 153) 3 45 := ⟨by decide +kernel, rfl⟩
set_option maxRecDepth 65536 in
theorem wd207 {Z : State} {a0 : Array Value} (hw : ∀ d ∈ tables_1, d.before a0 Z = true) : (Jvm.Cond.fieldLink "com/example/horatius/horatius/core/OutlinePage" (153 : Nat) "com/example/horatius/horatius/core/OutlinePage" "shallowestFromStart" "[I").before a0 Z = true := hw _ (List.mem_of_getElem? (i := 207) rfl)
theorem dEN_45 : Dc prog_19_method_8_code 45 (.aload_n 0) 1 46 := ⟨by decide +kernel, rfl⟩
theorem dEN_46 : Dc prog_19_method_8_code 46 (.aload_n 0) 1 47 := ⟨by decide +kernel, rfl⟩
theorem dEN_47 : Dc prog_19_method_8_code 47 (.aload_n 0) 1 48 := ⟨by decide +kernel, rfl⟩
theorem dEN_48 : Dc prog_19_method_8_code 48 (.getfield 78) 3 51 := ⟨by decide +kernel, rfl⟩
theorem dEN_51 : Dc prog_19_method_8_code 51 (.iconst 1) 1 52 := ⟨by decide +kernel, rfl⟩
theorem dEN_52 : Dc prog_19_method_8_code 52 .isub 1 53 := ⟨by decide +kernel, rfl⟩
theorem dEN_53 : Dc prog_19_method_8_code 53 (.iconst (-1)) 1 54 := ⟨by decide +kernel, rfl⟩
theorem dEN_54 : Dc prog_19_method_8_code 54 (.iconst (-1)) 1 55 := ⟨by decide +kernel, rfl⟩
theorem dEN_55 : Dc prog_19_method_8_code 55 (.invokevirtual 149) 3 58 := ⟨by decide +kernel, rfl⟩
theorem dEN_58 : Dc prog_19_method_8_code 58 (.putfield 156) 3 61 := ⟨by decide +kernel, rfl⟩
set_option maxRecDepth 65536 in
theorem wd209 {Z : State} {a0 : Array Value} (hw : ∀ d ∈ tables_1, d.before a0 Z = true) : (Jvm.Cond.fieldLink "com/example/horatius/horatius/core/OutlinePage" (156 : Nat) "com/example/horatius/horatius/core/OutlinePage" "shallowestToEnd" "[I").before a0 Z = true := hw _ (List.mem_of_getElem? (i := 209) rfl)
theorem dEN_61 : Dc prog_19_method_8_code 61 (.aload_n 0) 1 62 := ⟨by decide +kernel, rfl⟩
theorem dEN_62 : Dc prog_19_method_8_code 62 (.getfield 156) 3 65 := ⟨by decide +kernel, rfl⟩
theorem dEN_65 : Dc prog_19_method_8_code 65 (.invokestatic 159) 3 68 := ⟨by decide +kernel, rfl⟩
theorem pd_21 : parseMethodDescriptor "([I)V" = some ⟨[(.array .int)], none⟩ := by decide +kernel
set_option maxRecDepth 65536 in
theorem wd211 {Z : State} {a0 : Array Value} (hw : ∀ d ∈ tables_1, d.before a0 Z = true) : (Jvm.Cond.methodLink "com/example/horatius/horatius/core/OutlinePage" (159 : Nat) ({ cls := "java/util/Arrays", name := "sort", desc := "([I)V" } : Jvm.MethodName)).before a0 Z = true := hw _ (List.mem_of_getElem? (i := 211) rfl)
set_option maxRecDepth 65536 in
theorem wd212 {Z : State} {a0 : Array Value} (hw : ∀ d ∈ tables_1, d.before a0 Z = true) : (Jvm.Cond.static ({ cls := "java/util/Arrays", name := "sort", desc := "([I)V" } : Jvm.MethodName)).before a0 Z = true := hw _ (List.mem_of_getElem? (i := 212) rfl)
set_option maxRecDepth 65536 in
theorem wd213 {Z : State} {a0 : Array Value} (hw : ∀ d ∈ tables_1, d.before a0 Z = true) : (Jvm.Cond.code ({ cls := "java/util/Arrays", name := "sort", desc := "([I)V" } : Jvm.MethodName) jdk_65_method_2_code (1 : Nat) (Option.none : Option Jvm.ClassFile.FieldType)).before a0 Z = true := hw _ (List.mem_of_getElem? (i := 213) rfl)
theorem dEN_68 : Dc prog_19_method_8_code 68 (.aload_n 0) 1 69 := ⟨by decide +kernel, rfl⟩
theorem dEN_69 : Dc prog_19_method_8_code 69 (.iconst 1) 1 70 := ⟨by decide +kernel, rfl⟩
theorem dEN_70 : Dc prog_19_method_8_code 70 (.putfield 163) 3 73 := ⟨by decide +kernel, rfl⟩
theorem dEN_73 : Dc prog_19_method_8_code 73 .return_ 1 74 := ⟨by decide +kernel, rfl⟩
theorem efEN (m : MethodId) (x0 : Addr) : entryFrame m #[.ref x0] 1 = mkF m 0 #[.val (.ref x0)] [] := by first | (simp [entryFrame, mkF, argsToLocals, Value.category]; done) | rfl
theorem pnEN : plainFor (⟨"com/example/horatius/horatius/core/OutlinePage", "end", "()V"⟩ : MethodName) = true := plainFor_of_name (by first | (simp [plainName, overriddenIn]; done) | decide +kernel)
theorem dLA_0 : Dc prog_19_method_22_code 0 (.iconst 0) 1 1 := ⟨by decide +kernel, rfl⟩
theorem dLA_1 : Dc prog_19_method_22_code 1 (.istore_n 2) 1 2 := ⟨by decide +kernel, rfl⟩
theorem dLA_2 : Dc prog_19_method_22_code 2 (.aload_n 0) 1 3 := ⟨by decide +kernel, rfl⟩
theorem dLA_3 : Dc prog_19_method_22_code 3 (.getfield 156) 3 6 := ⟨by decide +kernel, rfl⟩
theorem dLA_6 : Dc prog_19_method_22_code 6 .arraylength 1 7 := ⟨by decide +kernel, rfl⟩
theorem dLA_7 : Dc prog_19_method_22_code 7 (.iconst 1) 1 8 := ⟨by decide +kernel, rfl⟩
theorem dLA_8 : Dc prog_19_method_22_code 8 .isub 1 9 := ⟨by decide +kernel, rfl⟩
theorem dLA_9 : Dc prog_19_method_22_code 9 (.istore_n 3) 1 10 := ⟨by decide +kernel, rfl⟩
theorem dLA_10 : Dc prog_19_method_22_code 10 (.iload_n 2) 1 11 := ⟨by decide +kernel, rfl⟩
theorem dLA_11 : Dc prog_19_method_22_code 11 (.iload_n 3) 1 12 := ⟨by decide +kernel, rfl⟩
theorem dLA_12 : Db prog_19_method_22_code 12 (.if_icmp .ge 42) 42 15 54 := ⟨by decide +kernel, rfl, by decide, by decide⟩
theorem dLA_54 : Dc prog_19_method_22_code 54 (.aload_n 0) 1 55 := ⟨by decide +kernel, rfl⟩
theorem dLA_55 : Dc prog_19_method_22_code 55 (.getfield 24) 3 58 := ⟨by decide +kernel, rfl⟩
theorem dLA_58 : Dc prog_19_method_22_code 58 (.aload_n 0) 1 59 := ⟨by decide +kernel, rfl⟩
theorem dLA_59 : Dc prog_19_method_22_code 59 (.getfield 156) 3 62 := ⟨by decide +kernel, rfl⟩
theorem dLA_62 : Dc prog_19_method_22_code 62 (.iload_n 2) 1 63 := ⟨by decide +kernel, rfl⟩
theorem dLA_63 : Dc prog_19_method_22_code 63 .iaload 1 64 := ⟨by decide +kernel, rfl⟩
theorem dLA_64 : Dc prog_19_method_22_code 64 .iadd 1 65 := ⟨by decide +kernel, rfl⟩
theorem dLA_65 : Dc prog_19_method_22_code 65 .ireturn 1 66 := ⟨by decide +kernel, rfl⟩
theorem dLA_15 : Dc prog_19_method_22_code 15 (.iload_n 2) 1 16 := ⟨by decide +kernel, rfl⟩
theorem dLA_16 : Dc prog_19_method_22_code 16 (.iload_n 3) 1 17 := ⟨by decide +kernel, rfl⟩
theorem dLA_17 : Dc prog_19_method_22_code 17 .iadd 1 18 := ⟨by decide +kernel, rfl⟩
theorem dLA_18 : Dc prog_19_method_22_code 18 (.iconst 1) 1 19 := ⟨by decide +kernel, rfl⟩
theorem dLA_19 : Dc prog_19_method_22_code 19 .iadd 1 20 := ⟨by decide +kernel, rfl⟩
theorem dLA_20 : Dc prog_19_method_22_code 20 (.iconst 1) 1 21 := ⟨by decide +kernel, rfl⟩
theorem dLA_21 : Dc prog_19_method_22_code 21 .iushr 1 22 := ⟨by decide +kernel, rfl⟩
theorem dLA_22 : Dc prog_19_method_22_code 22 (.istore 4) 2 24 := ⟨by decide +kernel, rfl⟩
theorem dLA_24 : Dc prog_19_method_22_code 24 (.aload_n 0) 1 25 := ⟨by decide +kernel, rfl⟩
theorem dLA_25 : Dc prog_19_method_22_code 25 (.getfield 69) 3 28 := ⟨by decide +kernel, rfl⟩
theorem dLA_28 : Dc prog_19_method_22_code 28 (.aload_n 0) 1 29 := ⟨by decide +kernel, rfl⟩
theorem dLA_29 : Dc prog_19_method_22_code 29 (.getfield 156) 3 32 := ⟨by decide +kernel, rfl⟩
theorem dLA_32 : Dc prog_19_method_22_code 32 (.iload 4) 2 34 := ⟨by decide +kernel, rfl⟩
theorem dLA_34 : Dc prog_19_method_22_code 34 .iaload 1 35 := ⟨by decide +kernel, rfl⟩
theorem dLA_35 : Dc prog_19_method_22_code 35 .iaload 1 36 := ⟨by decide +kernel, rfl⟩
theorem dLA_36 : Dc prog_19_method_22_code 36 (.iload_n 1) 1 37 := ⟨by decide +kernel, rfl⟩
theorem dLA_37 : Db prog_19_method_22_code 37 (.if_icmp .gt 9) 9 40 46 := ⟨by decide +kernel, rfl, by decide, by decide⟩
theorem dLA_46 : Dc prog_19_method_22_code 46 (.iload 4) 2 48 := ⟨by decide +kernel, rfl⟩
theorem dLA_48 : Dc prog_19_method_22_code 48 (.iconst 1) 1 49 := ⟨by decide +kernel, rfl⟩
theorem dLA_49 : Dc prog_19_method_22_code 49 .isub 1 50 := ⟨by decide +kernel, rfl⟩
theorem dLA_50 : Dc prog_19_method_22_code 50 (.istore_n 3) 1 51 := ⟨by decide +kernel, rfl⟩
theorem dLA_51 : Db prog_19_method_22_code 51 (.goto (-41)) (-41) 54 10 := ⟨by decide +kernel, rfl, by decide, by decide⟩
theorem dLA_40 : Dc prog_19_method_22_code 40 (.iload 4) 2 42 := ⟨by decide +kernel, rfl⟩
theorem dLA_42 : Dc prog_19_method_22_code 42 (.istore_n 2) 1 43 := ⟨by decide +kernel, rfl⟩
theorem dLA_43 : Db prog_19_method_22_code 43 (.goto 8) 8 46 51 := ⟨by decide +kernel, rfl, by decide, by decide⟩
theorem efLA (m : MethodId) (x0 : Addr) (x1 : Int32) : entryFrame m #[.ref x0, .int x1] 5 = mkF m 0 #[.val (.ref x0), .val (.int x1), .unset, .unset, .unset] [] := by first | (simp [entryFrame, mkF, argsToLocals, Value.category]; done) | rfl
theorem pnLA : plainFor (⟨"com/example/horatius/horatius/core/OutlinePage", "lastAtOrAbove", "(I)I"⟩ : MethodName) = true := plainFor_of_name (by first | (simp [plainName, overriddenIn]; done) | decide +kernel)
theorem d0_0 : Dc code 0 (.iconst 1) 1 1 := ⟨by decide +kernel, rfl⟩
theorem d0_1 : Dc code 1 (.iload 4) 2 3 := ⟨by decide +kernel, rfl⟩
theorem d0_3 : Dc code 3 (.iconst 3) 1 4 := ⟨by decide +kernel, rfl⟩
theorem d0_4 : Dc code 4 .iand 1 5 := ⟨by decide +kernel, rfl⟩
theorem d0_5 : Dc code 5 .iadd 1 6 := ⟨by decide +kernel, rfl⟩
theorem d0_6 : Dc code 6 (.istore 5) 2 8 := ⟨by decide +kernel, rfl⟩
theorem d0_8 : Dc code 8 (.iconst 2) 1 9 := ⟨by decide +kernel, rfl⟩
theorem d0_9 : Dc code 9 (.iload_n 1) 1 10 := ⟨by decide +kernel, rfl⟩
theorem d0_10 : Dc code 10 (.ldc 7) 2 12 := ⟨by decide +kernel, rfl⟩
set_option maxRecDepth 65536 in
theorem wd0 {Z : State} {a0 : Array Value} (hw : ∀ d ∈ tables_1, d.before a0 Z = true) : (Jvm.Cond.constant "com/example/horatius/horatius/core/OutlinePageLastAtOrAbovePinLaw" (7 : Nat) (2147483647 : Int32)).before a0 Z = true := hw _ (List.mem_of_getElem? (i := 0) rfl)
theorem d0_12 : Dc code 12 .iand 1 13 := ⟨by decide +kernel, rfl⟩
theorem d0_13 : Dc code 13 (.ldc 10) 2 15 := ⟨by decide +kernel, rfl⟩
set_option maxRecDepth 65536 in
theorem wd1 {Z : State} {a0 : Array Value} (hw : ∀ d ∈ tables_1, d.before a0 Z = true) : (Jvm.Cond.constant "com/example/horatius/horatius/core/OutlinePageLastAtOrAbovePinLaw" (10 : Nat) (2147483629 : Int32)).before a0 Z = true := hw _ (List.mem_of_getElem? (i := 1) rfl)
theorem d0_15 : Dc code 15 .irem 1 16 := ⟨by decide +kernel, rfl⟩
theorem d0_16 : Dc code 16 .iadd 1 17 := ⟨by decide +kernel, rfl⟩
theorem d0_17 : Dc code 17 (.istore 6) 2 19 := ⟨by decide +kernel, rfl⟩
theorem d0_19 : Dc code 19 (.iconst 1) 1 20 := ⟨by decide +kernel, rfl⟩
theorem d0_20 : Dc code 20 (.iload_n 2) 1 21 := ⟨by decide +kernel, rfl⟩
theorem d0_21 : Dc code 21 (.ldc 7) 2 23 := ⟨by decide +kernel, rfl⟩
theorem d0_23 : Dc code 23 .iand 1 24 := ⟨by decide +kernel, rfl⟩
theorem d0_24 : Dc code 24 (.ldc 11) 2 26 := ⟨by decide +kernel, rfl⟩
set_option maxRecDepth 65536 in
theorem wd2 {Z : State} {a0 : Array Value} (hw : ∀ d ∈ tables_1, d.before a0 Z = true) : (Jvm.Cond.constant "com/example/horatius/horatius/core/OutlinePageLastAtOrAbovePinLaw" (11 : Nat) (2147483638 : Int32)).before a0 Z = true := hw _ (List.mem_of_getElem? (i := 2) rfl)
theorem d0_26 : Dc code 26 .irem 1 27 := ⟨by decide +kernel, rfl⟩
theorem d0_27 : Dc code 27 .iadd 1 28 := ⟨by decide +kernel, rfl⟩
theorem d0_28 : Dc code 28 (.istore 7) 2 30 := ⟨by decide +kernel, rfl⟩
theorem d0_30 : Dc code 30 (.iload_n 0) 1 31 := ⟨by decide +kernel, rfl⟩
theorem d0_31 : Dc code 31 (.iconst 3) 1 32 := ⟨by decide +kernel, rfl⟩
theorem d0_32 : Dc code 32 .iand 1 33 := ⟨by decide +kernel, rfl⟩
theorem d0_33 : Dc code 33 (.istore 8) 2 35 := ⟨by decide +kernel, rfl⟩
theorem d0_35 : Dc code 35 (.iload 8) 2 37 := ⟨by decide +kernel, rfl⟩
theorem d0_37 : Dc code 37 (.iconst 1) 1 38 := ⟨by decide +kernel, rfl⟩
theorem d0_38 : Dc code 38 .iadd 1 39 := ⟨by decide +kernel, rfl⟩
theorem d0_39 : Dc code 39 (.iload_n 0) 1 40 := ⟨by decide +kernel, rfl⟩
theorem d0_40 : Dc code 40 (.iconst 2) 1 41 := ⟨by decide +kernel, rfl⟩
theorem d0_41 : Dc code 41 .iushr 1 42 := ⟨by decide +kernel, rfl⟩
theorem d0_42 : Dc code 42 (.iconst 3) 1 43 := ⟨by decide +kernel, rfl⟩
theorem d0_43 : Dc code 43 .iand 1 44 := ⟨by decide +kernel, rfl⟩
theorem d0_44 : Dc code 44 (.invokestatic 12) 3 47 := ⟨by decide +kernel, rfl⟩
set_option maxRecDepth 65536 in
theorem wd3 {Z : State} {a0 : Array Value} (hw : ∀ d ∈ tables_1, d.before a0 Z = true) : (Jvm.Cond.methodLink "com/example/horatius/horatius/core/OutlinePageLastAtOrAbovePinLaw" (12 : Nat) ({ cls := "java/lang/Math", name := "min", desc := "(II)I" } : Jvm.MethodName)).before a0 Z = true := hw _ (List.mem_of_getElem? (i := 3) rfl)
theorem d0_47 : Dc code 47 (.istore 9) 2 49 := ⟨by decide +kernel, rfl⟩
theorem d0_49 : Dc code 49 (.iload 9) 2 51 := ⟨by decide +kernel, rfl⟩
theorem d0_51 : Dc code 51 (.iconst 1) 1 52 := ⟨by decide +kernel, rfl⟩
theorem d0_52 : Dc code 52 .iadd 1 53 := ⟨by decide +kernel, rfl⟩
theorem d0_53 : Dc code 53 (.iload_n 0) 1 54 := ⟨by decide +kernel, rfl⟩
theorem d0_54 : Dc code 54 (.iconst 4) 1 55 := ⟨by decide +kernel, rfl⟩
theorem d0_55 : Dc code 55 .iushr 1 56 := ⟨by decide +kernel, rfl⟩
theorem d0_56 : Dc code 56 (.iconst 3) 1 57 := ⟨by decide +kernel, rfl⟩
theorem d0_57 : Dc code 57 .iand 1 58 := ⟨by decide +kernel, rfl⟩
theorem d0_58 : Dc code 58 (.invokestatic 12) 3 61 := ⟨by decide +kernel, rfl⟩
theorem d0_61 : Dc code 61 (.istore 10) 2 63 := ⟨by decide +kernel, rfl⟩
theorem d0_63 : Dc code 63 (.iload 10) 2 65 := ⟨by decide +kernel, rfl⟩
theorem d0_65 : Dc code 65 (.iconst 1) 1 66 := ⟨by decide +kernel, rfl⟩
theorem d0_66 : Dc code 66 .iadd 1 67 := ⟨by decide +kernel, rfl⟩
theorem d0_67 : Dc code 67 (.iload_n 0) 1 68 := ⟨by decide +kernel, rfl⟩
theorem d0_68 : Dc code 68 (.bipush 6) 2 70 := ⟨by decide +kernel, rfl⟩
theorem d0_70 : Dc code 70 .iushr 1 71 := ⟨by decide +kernel, rfl⟩
theorem d0_71 : Dc code 71 (.iconst 3) 1 72 := ⟨by decide +kernel, rfl⟩
theorem d0_72 : Dc code 72 .iand 1 73 := ⟨by decide +kernel, rfl⟩
theorem d0_73 : Dc code 73 (.invokestatic 12) 3 76 := ⟨by decide +kernel, rfl⟩
theorem d0_76 : Dc code 76 (.istore 11) 2 78 := ⟨by decide +kernel, rfl⟩
theorem d0_78 : Dc code 78 (.iload 6) 2 80 := ⟨by decide +kernel, rfl⟩
theorem d0_80 : Dc code 80 (.iload 8) 2 82 := ⟨by decide +kernel, rfl⟩
theorem d0_82 : Dc code 82 .iadd 1 83 := ⟨by decide +kernel, rfl⟩
theorem d0_83 : Dc code 83 (.istore 12) 2 85 := ⟨by decide +kernel, rfl⟩
theorem d0_85 : Dc code 85 (.iload 6) 2 87 := ⟨by decide +kernel, rfl⟩
theorem d0_87 : Dc code 87 (.iload 9) 2 89 := ⟨by decide +kernel, rfl⟩
theorem d0_89 : Dc code 89 .iadd 1 90 := ⟨by decide +kernel, rfl⟩
theorem d0_90 : Dc code 90 (.istore 13) 2 92 := ⟨by decide +kernel, rfl⟩
theorem d0_92 : Dc code 92 (.iload 6) 2 94 := ⟨by decide +kernel, rfl⟩
theorem d0_94 : Dc code 94 (.iload 10) 2 96 := ⟨by decide +kernel, rfl⟩
theorem d0_96 : Dc code 96 .iadd 1 97 := ⟨by decide +kernel, rfl⟩
theorem d0_97 : Dc code 97 (.istore 14) 2 99 := ⟨by decide +kernel, rfl⟩
theorem d0_99 : Dc code 99 (.iload 6) 2 101 := ⟨by decide +kernel, rfl⟩
theorem d0_101 : Dc code 101 (.iload 11) 2 103 := ⟨by decide +kernel, rfl⟩
theorem d0_103 : Dc code 103 .iadd 1 104 := ⟨by decide +kernel, rfl⟩
theorem d0_104 : Dc code 104 (.istore 15) 2 106 := ⟨by decide +kernel, rfl⟩
theorem d0_106 : Dc code 106 (.iload 12) 2 108 := ⟨by decide +kernel, rfl⟩
theorem d0_108 : Dc code 108 (.istore 16) 2 110 := ⟨by decide +kernel, rfl⟩
theorem d0_110 : Dc code 110 (.iload 5) 2 112 := ⟨by decide +kernel, rfl⟩
theorem d0_112 : Dc code 112 (.iconst 2) 1 113 := ⟨by decide +kernel, rfl⟩
theorem d0_113 : Db code 113 (.if_icmp .lt 12) 12 116 125 := ⟨by decide +kernel, rfl, by decide, by decide⟩
theorem d0_125 : Dc code 125 (.iload 5) 2 127 := ⟨by decide +kernel, rfl⟩
theorem d0_127 : Dc code 127 (.iconst 3) 1 128 := ⟨by decide +kernel, rfl⟩
theorem d0_128 : Db code 128 (.if_icmp .lt 12) 12 131 140 := ⟨by decide +kernel, rfl, by decide, by decide⟩
theorem d0_140 : Dc code 140 (.iload 5) 2 142 := ⟨by decide +kernel, rfl⟩
theorem d0_142 : Dc code 142 (.iconst 4) 1 143 := ⟨by decide +kernel, rfl⟩
theorem d0_143 : Db code 143 (.if_icmp .lt 12) 12 146 155 := ⟨by decide +kernel, rfl, by decide, by decide⟩
theorem d0_155 : Dc code 155 (.iload 5) 2 157 := ⟨by decide +kernel, rfl⟩
theorem d0_157 : Dc code 157 (.iconst 1) 1 158 := ⟨by decide +kernel, rfl⟩
theorem d0_158 : Db code 158 (.if_icmp .ne 8) 8 161 166 := ⟨by decide +kernel, rfl, by decide, by decide⟩
theorem d0_161 : Dc code 161 (.iload 12) 2 163 := ⟨by decide +kernel, rfl⟩
theorem d0_163 : Db code 163 (.goto 27) 27 166 190 := ⟨by decide +kernel, rfl, by decide, by decide⟩
theorem d0_190 : Dc code 190 (.istore 17) 2 192 := ⟨by decide +kernel, rfl⟩
theorem d0_192 : Dc code 192 (.iload_n 3) 1 193 := ⟨by decide +kernel, rfl⟩
theorem d0_193 : Dc code 193 (.iload 16) 2 195 := ⟨by decide +kernel, rfl⟩
theorem d0_195 : Db code 195 (.if_icmp .ge 13) 13 198 208 := ⟨by decide +kernel, rfl, by decide, by decide⟩
theorem d0_198 : Dc code 198 (.iload 16) 2 200 := ⟨by decide +kernel, rfl⟩
theorem d0_200 : Dc code 200 (.iload_n 3) 1 201 := ⟨by decide +kernel, rfl⟩
theorem d0_201 : Dc code 201 (.bipush 7) 2 203 := ⟨by decide +kernel, rfl⟩
theorem d0_203 : Dc code 203 .iand 1 204 := ⟨by decide +kernel, rfl⟩
theorem d0_204 : Dc code 204 .iadd 1 205 := ⟨by decide +kernel, rfl⟩
theorem d0_205 : Db code 205 (.goto 4) 4 208 209 := ⟨by decide +kernel, rfl, by decide, by decide⟩
theorem d0_208 : Dc code 208 (.iload_n 3) 1 209 := ⟨by decide +kernel, rfl⟩
theorem d0_209 : Dc code 209 (.istore 18) 2 211 := ⟨by decide +kernel, rfl⟩
theorem d0_211 : Dc code 211 (.iload 6) 2 213 := ⟨by decide +kernel, rfl⟩
theorem d0_213 : Dc code 213 (.iconst 3) 1 214 := ⟨by decide +kernel, rfl⟩
theorem d0_214 : Dc code 214 .iadd 1 215 := ⟨by decide +kernel, rfl⟩
theorem d0_215 : Dc code 215 (.istore 19) 2 217 := ⟨by decide +kernel, rfl⟩
theorem d0_217 : Dc code 217 (.new 18) 3 220 := ⟨by decide +kernel, rfl⟩
set_option maxRecDepth 65536 in
theorem wd7 {Z : State} {a0 : Array Value} (hw : ∀ d ∈ tables_1, d.before a0 Z = true) : (Jvm.Cond.classLink "com/example/horatius/horatius/core/OutlinePageLastAtOrAbovePinLaw" (18 : Nat) "com/example/horatius/horatius/core/PageSummary").before a0 Z = true := hw _ (List.mem_of_getElem? (i := 7) rfl)
theorem d0_220 : Dc code 220 .dup 1 221 := ⟨by decide +kernel, rfl⟩
theorem d0_221 : Dc code 221 (.iconst 1) 1 222 := ⟨by decide +kernel, rfl⟩
theorem d0_222 : Dc code 222 (.iload 19) 2 224 := ⟨by decide +kernel, rfl⟩
theorem d0_224 : Dc code 224 (.getstatic 20) 3 227 := ⟨by decide +kernel, rfl⟩
set_option maxRecDepth 65536 in
theorem wd10 {Z : State} {a0 : Array Value} (hw : ∀ d ∈ tables_1, d.before a0 Z = true) : (Jvm.Cond.fieldLink "com/example/horatius/horatius/core/OutlinePageLastAtOrAbovePinLaw" (20 : Nat) "com/example/horatius/horatius/core/NodeKind" "ELEMENT" "Lcom/example/horatius/horatius/core/NodeKind;").before a0 Z = true := hw _ (List.mem_of_getElem? (i := 10) rfl)
theorem d0_227 : Dc code 227 (.iload 19) 2 229 := ⟨by decide +kernel, rfl⟩
theorem d0_229 : Dc code 229 (.iconst 0) 1 230 := ⟨by decide +kernel, rfl⟩
theorem d0_230 : Dc code 230 (.iconst 0) 1 231 := ⟨by decide +kernel, rfl⟩
theorem d0_231 : Dc code 231 (.iconst 0) 1 232 := ⟨by decide +kernel, rfl⟩
theorem d0_232 : Dc code 232 (.newarray .int) 2 234 := ⟨by decide +kernel, rfl⟩
theorem d0_234 : Dc code 234 (.invokespecial 26) 3 237 := ⟨by decide +kernel, rfl⟩
theorem pd_22 : parseMethodDescriptor "(IILcom/example/horatius/horatius/core/NodeKind;III[I)V" = some ⟨[.int, .int, (.object "com/example/horatius/horatius/core/NodeKind"), .int, .int, .int, (.array .int)], none⟩ := by decide +kernel
set_option maxRecDepth 65536 in
theorem wd14 {Z : State} {a0 : Array Value} (hw : ∀ d ∈ tables_1, d.before a0 Z = true) : (Jvm.Cond.methodLink "com/example/horatius/horatius/core/OutlinePageLastAtOrAbovePinLaw" (26 : Nat) ({ cls := "com/example/horatius/horatius/core/PageSummary", name := "<init>", desc := "(IILcom/example/horatius/horatius/core/NodeKind;III[I)V" } : Jvm.MethodName)).before a0 Z = true := hw _ (List.mem_of_getElem? (i := 14) rfl)
set_option maxRecDepth 65536 in
theorem wd15 {Z : State} {a0 : Array Value} (hw : ∀ d ∈ tables_1, d.before a0 Z = true) : (Jvm.Cond.instanceMethod ({ cls := "com/example/horatius/horatius/core/PageSummary", name := "<init>", desc := "(IILcom/example/horatius/horatius/core/NodeKind;III[I)V" } : Jvm.MethodName)).before a0 Z = true := hw _ (List.mem_of_getElem? (i := 15) rfl)
set_option maxRecDepth 65536 in
theorem wd16 {Z : State} {a0 : Array Value} (hw : ∀ d ∈ tables_1, d.before a0 Z = true) : (Jvm.Cond.code ({ cls := "com/example/horatius/horatius/core/PageSummary", name := "<init>", desc := "(IILcom/example/horatius/horatius/core/NodeKind;III[I)V" } : Jvm.MethodName) prog_23_method_2_code (9 : Nat) (Option.none : Option Jvm.ClassFile.FieldType)).before a0 Z = true := hw _ (List.mem_of_getElem? (i := 16) rfl)
theorem d0_237 : Dc code 237 (.astore 20) 2 239 := ⟨by decide +kernel, rfl⟩
theorem d0_239 : Dc code 239 (.new 18) 3 242 := ⟨by decide +kernel, rfl⟩
theorem d0_242 : Dc code 242 .dup 1 243 := ⟨by decide +kernel, rfl⟩
theorem d0_243 : Dc code 243 (.iload 5) 2 245 := ⟨by decide +kernel, rfl⟩
theorem d0_245 : Dc code 245 (.iload 16) 2 247 := ⟨by decide +kernel, rfl⟩
theorem d0_247 : Dc code 247 (.getstatic 20) 3 250 := ⟨by decide +kernel, rfl⟩
theorem d0_250 : Dc code 250 (.iload 17) 2 252 := ⟨by decide +kernel, rfl⟩
theorem d0_252 : Dc code 252 (.iconst 0) 1 253 := ⟨by decide +kernel, rfl⟩
theorem d0_253 : Dc code 253 (.iconst 0) 1 254 := ⟨by decide +kernel, rfl⟩
theorem d0_254 : Dc code 254 (.iconst 0) 1 255 := ⟨by decide +kernel, rfl⟩
theorem d0_255 : Dc code 255 (.newarray .int) 2 257 := ⟨by decide +kernel, rfl⟩
theorem d0_257 : Dc code 257 (.invokespecial 26) 3 260 := ⟨by decide +kernel, rfl⟩
theorem d0_260 : Dc code 260 (.astore 21) 2 262 := ⟨by decide +kernel, rfl⟩
theorem d0_262 : Dc code 262 (.new 29) 3 265 := ⟨by decide +kernel, rfl⟩
set_option maxRecDepth 65536 in
theorem wd51 {Z : State} {a0 : Array Value} (hw : ∀ d ∈ tables_1, d.before a0 Z = true) : (Jvm.Cond.classLink "com/example/horatius/horatius/core/OutlinePageLastAtOrAbovePinLaw" (29 : Nat) "com/example/horatius/horatius/core/OutlinePage").before a0 Z = true := hw _ (List.mem_of_getElem? (i := 51) rfl)
theorem d0_265 : Dc code 265 .dup 1 266 := ⟨by decide +kernel, rfl⟩
theorem d0_266 : Dc code 266 (.iconst 1) 1 267 := ⟨by decide +kernel, rfl⟩
theorem d0_267 : Dc code 267 (.iload 7) 2 269 := ⟨by decide +kernel, rfl⟩
theorem d0_269 : Dc code 269 (.aload 21) 2 271 := ⟨by decide +kernel, rfl⟩
theorem d0_271 : Dc code 271 (.aload 20) 2 273 := ⟨by decide +kernel, rfl⟩
theorem d0_273 : Dc code 273 (.iconst 1) 1 274 := ⟨by decide +kernel, rfl⟩
theorem d0_274 : Dc code 274 (.invokespecial 31) 3 277 := ⟨by decide +kernel, rfl⟩
theorem pd_23 : parseMethodDescriptor "(IILcom/example/horatius/horatius/core/PageSummary;Lcom/example/horatius/horatius/core/PageSummary;I)V" = some ⟨[.int, .int, (.object "com/example/horatius/horatius/core/PageSummary"), (.object "com/example/horatius/horatius/core/PageSummary"), .int], none⟩ := by decide +kernel
set_option maxRecDepth 65536 in
theorem wd54 {Z : State} {a0 : Array Value} (hw : ∀ d ∈ tables_1, d.before a0 Z = true) : (Jvm.Cond.methodLink "com/example/horatius/horatius/core/OutlinePageLastAtOrAbovePinLaw" (31 : Nat) ({ cls := "com/example/horatius/horatius/core/OutlinePage", name := "<init>", desc := "(IILcom/example/horatius/horatius/core/PageSummary;Lcom/example/horatius/horatius/core/PageSummary;I)V" } : Jvm.MethodName)).before a0 Z = true := hw _ (List.mem_of_getElem? (i := 54) rfl)
set_option maxRecDepth 65536 in
theorem wd55 {Z : State} {a0 : Array Value} (hw : ∀ d ∈ tables_1, d.before a0 Z = true) : (Jvm.Cond.instanceMethod ({ cls := "com/example/horatius/horatius/core/OutlinePage", name := "<init>", desc := "(IILcom/example/horatius/horatius/core/PageSummary;Lcom/example/horatius/horatius/core/PageSummary;I)V" } : Jvm.MethodName)).before a0 Z = true := hw _ (List.mem_of_getElem? (i := 55) rfl)
set_option maxRecDepth 65536 in
theorem wd56 {Z : State} {a0 : Array Value} (hw : ∀ d ∈ tables_1, d.before a0 Z = true) : (Jvm.Cond.code ({ cls := "com/example/horatius/horatius/core/OutlinePage", name := "<init>", desc := "(IILcom/example/horatius/horatius/core/PageSummary;Lcom/example/horatius/horatius/core/PageSummary;I)V" } : Jvm.MethodName) prog_19_method_1_code (8 : Nat) (Option.none : Option Jvm.ClassFile.FieldType)).before a0 Z = true := hw _ (List.mem_of_getElem? (i := 56) rfl)
theorem d0_277 : Dc code 277 (.astore 22) 2 279 := ⟨by decide +kernel, rfl⟩
theorem d0_279 : Dc code 279 (.aload 22) 2 281 := ⟨by decide +kernel, rfl⟩
theorem d0_281 : Dc code 281 (.iload 12) 2 283 := ⟨by decide +kernel, rfl⟩
theorem d0_283 : Dc code 283 (.iconst 0) 1 284 := ⟨by decide +kernel, rfl⟩
theorem d0_284 : Dc code 284 (.iload_n 0) 1 285 := ⟨by decide +kernel, rfl⟩
theorem d0_285 : Dc code 285 (.bipush 8) 2 287 := ⟨by decide +kernel, rfl⟩
theorem d0_287 : Dc code 287 .iushr 1 288 := ⟨by decide +kernel, rfl⟩
theorem d0_288 : Dc code 288 (.iconst 1) 1 289 := ⟨by decide +kernel, rfl⟩
theorem d0_289 : Dc code 289 .iand 1 290 := ⟨by decide +kernel, rfl⟩
theorem d0_290 : Db code 290 (.ifCond .eq 7) 7 293 297 := ⟨by decide +kernel, rfl, by decide, by decide⟩
theorem d0_297 : Dc code 297 (.iconst 0) 1 298 := ⟨by decide +kernel, rfl⟩
theorem d0_293 : Dc code 293 (.iconst 1) 1 294 := ⟨by decide +kernel, rfl⟩
theorem d0_294 : Db code 294 (.goto 4) 4 297 298 := ⟨by decide +kernel, rfl, by decide, by decide⟩
theorem d0_298 : Dc code 298 (.invokevirtual 34) 3 301 := ⟨by decide +kernel, rfl⟩
theorem pd_24 : parseMethodDescriptor "(IIZ)V" = some ⟨[.int, .int, .boolean], none⟩ := by decide +kernel
set_option maxRecDepth 65536 in
theorem wd107 {Z : State} {a0 : Array Value} (hw : ∀ d ∈ tables_1, d.before a0 Z = true) : (Jvm.Cond.methodLink "com/example/horatius/horatius/core/OutlinePageLastAtOrAbovePinLaw" (34 : Nat) ({ cls := "com/example/horatius/horatius/core/OutlinePage", name := "addElement", desc := "(IIZ)V" } : Jvm.MethodName)).before a0 Z = true := hw _ (List.mem_of_getElem? (i := 107) rfl)
set_option maxRecDepth 65536 in
theorem wd108 {Z : State} {a0 : Array Value} (hw : ∀ d ∈ tables_1, d.before a0 Z = true) : (Jvm.Cond.declares ({ cls := "com/example/horatius/horatius/core/OutlinePage", name := "addElement", desc := "(IIZ)V" } : Jvm.MethodName)).before a0 Z = true := hw _ (List.mem_of_getElem? (i := 108) rfl)
set_option maxRecDepth 65536 in
theorem wd110 {Z : State} {a0 : Array Value} (hw : ∀ d ∈ tables_1, d.before a0 Z = true) : (Jvm.Cond.selects "com/example/horatius/horatius/core/OutlinePage" ({ cls := "com/example/horatius/horatius/core/OutlinePage", name := "addElement", desc := "(IIZ)V" } : Jvm.MethodName) ({ cls := "com/example/horatius/horatius/core/OutlinePage", name := "addElement", desc := "(IIZ)V" } : Jvm.MethodName)).before a0 Z = true := hw _ (List.mem_of_getElem? (i := 110) rfl)
set_option maxRecDepth 65536 in
theorem wd109 {Z : State} {a0 : Array Value} (hw : ∀ d ∈ tables_1, d.before a0 Z = true) : (Jvm.Cond.instanceMethod ({ cls := "com/example/horatius/horatius/core/OutlinePage", name := "addElement", desc := "(IIZ)V" } : Jvm.MethodName)).before a0 Z = true := hw _ (List.mem_of_getElem? (i := 109) rfl)
set_option maxRecDepth 65536 in
theorem wd111 {Z : State} {a0 : Array Value} (hw : ∀ d ∈ tables_1, d.before a0 Z = true) : (Jvm.Cond.code ({ cls := "com/example/horatius/horatius/core/OutlinePage", name := "addElement", desc := "(IIZ)V" } : Jvm.MethodName) prog_19_method_3_code (6 : Nat) (Option.none : Option Jvm.ClassFile.FieldType)).before a0 Z = true := hw _ (List.mem_of_getElem? (i := 111) rfl)
theorem d0_301 : Dc code 301 (.iload 5) 2 303 := ⟨by decide +kernel, rfl⟩
theorem d0_303 : Dc code 303 (.iconst 2) 1 304 := ⟨by decide +kernel, rfl⟩
theorem d0_304 : Db code 304 (.if_icmp .lt 25) 25 307 329 := ⟨by decide +kernel, rfl, by decide, by decide⟩
theorem d0_329 : Dc code 329 (.iload 5) 2 331 := ⟨by decide +kernel, rfl⟩
theorem d0_331 : Dc code 331 (.iconst 3) 1 332 := ⟨by decide +kernel, rfl⟩
theorem d0_332 : Db code 332 (.if_icmp .lt 25) 25 335 357 := ⟨by decide +kernel, rfl, by decide, by decide⟩
theorem d0_357 : Dc code 357 (.iload 5) 2 359 := ⟨by decide +kernel, rfl⟩
theorem d0_359 : Dc code 359 (.iconst 4) 1 360 := ⟨by decide +kernel, rfl⟩
theorem d0_360 : Db code 360 (.if_icmp .lt 25) 25 363 385 := ⟨by decide +kernel, rfl, by decide, by decide⟩
theorem d0_385 : Dc code 385 (.aload 22) 2 387 := ⟨by decide +kernel, rfl⟩
theorem d0_387 : Dc code 387 (.invokevirtual 38) 3 390 := ⟨by decide +kernel, rfl⟩
set_option maxRecDepth 65536 in
theorem wd171 {Z : State} {a0 : Array Value} (hw : ∀ d ∈ tables_1, d.before a0 Z = true) : (Jvm.Cond.methodLink "com/example/horatius/horatius/core/OutlinePageLastAtOrAbovePinLaw" (38 : Nat) ({ cls := "com/example/horatius/horatius/core/OutlinePage", name := "end", desc := "()V" } : Jvm.MethodName)).before a0 Z = true := hw _ (List.mem_of_getElem? (i := 171) rfl)
set_option maxRecDepth 65536 in
theorem wd172 {Z : State} {a0 : Array Value} (hw : ∀ d ∈ tables_1, d.before a0 Z = true) : (Jvm.Cond.declares ({ cls := "com/example/horatius/horatius/core/OutlinePage", name := "end", desc := "()V" } : Jvm.MethodName)).before a0 Z = true := hw _ (List.mem_of_getElem? (i := 172) rfl)
set_option maxRecDepth 65536 in
theorem wd174 {Z : State} {a0 : Array Value} (hw : ∀ d ∈ tables_1, d.before a0 Z = true) : (Jvm.Cond.selects "com/example/horatius/horatius/core/OutlinePage" ({ cls := "com/example/horatius/horatius/core/OutlinePage", name := "end", desc := "()V" } : Jvm.MethodName) ({ cls := "com/example/horatius/horatius/core/OutlinePage", name := "end", desc := "()V" } : Jvm.MethodName)).before a0 Z = true := hw _ (List.mem_of_getElem? (i := 174) rfl)
set_option maxRecDepth 65536 in
theorem wd173 {Z : State} {a0 : Array Value} (hw : ∀ d ∈ tables_1, d.before a0 Z = true) : (Jvm.Cond.instanceMethod ({ cls := "com/example/horatius/horatius/core/OutlinePage", name := "end", desc := "()V" } : Jvm.MethodName)).before a0 Z = true := hw _ (List.mem_of_getElem? (i := 173) rfl)
set_option maxRecDepth 65536 in
theorem wd175 {Z : State} {a0 : Array Value} (hw : ∀ d ∈ tables_1, d.before a0 Z = true) : (Jvm.Cond.code ({ cls := "com/example/horatius/horatius/core/OutlinePage", name := "end", desc := "()V" } : Jvm.MethodName) prog_19_method_8_code (1 : Nat) (Option.none : Option Jvm.ClassFile.FieldType)).before a0 Z = true := hw _ (List.mem_of_getElem? (i := 175) rfl)
theorem d0_390 : Dc code 390 (.iload 5) 2 392 := ⟨by decide +kernel, rfl⟩
theorem d0_392 : Dc code 392 (.iconst 4) 1 393 := ⟨by decide +kernel, rfl⟩
theorem d0_393 : Db code 393 (.if_icmp .lt 16) 16 396 409 := ⟨by decide +kernel, rfl, by decide, by decide⟩
theorem d0_409 : Dc code 409 (.iload 5) 2 411 := ⟨by decide +kernel, rfl⟩
theorem d0_411 : Dc code 411 (.iconst 3) 1 412 := ⟨by decide +kernel, rfl⟩
theorem d0_412 : Db code 412 (.if_icmp .lt 16) 16 415 428 := ⟨by decide +kernel, rfl, by decide, by decide⟩
theorem d0_428 : Dc code 428 (.iload 5) 2 430 := ⟨by decide +kernel, rfl⟩
theorem d0_430 : Dc code 430 (.iconst 2) 1 431 := ⟨by decide +kernel, rfl⟩
theorem d0_431 : Db code 431 (.if_icmp .lt 16) 16 434 447 := ⟨by decide +kernel, rfl, by decide, by decide⟩
theorem d0_447 : Dc code 447 (.iconst 0) 1 448 := ⟨by decide +kernel, rfl⟩
theorem d0_448 : Dc code 448 (.istore 23) 2 450 := ⟨by decide +kernel, rfl⟩
theorem d0_450 : Dc code 450 (.aload 22) 2 452 := ⟨by decide +kernel, rfl⟩
theorem d0_452 : Dc code 452 (.iload 18) 2 454 := ⟨by decide +kernel, rfl⟩
theorem d0_454 : Dc code 454 (.invokevirtual 41) 3 457 := ⟨by decide +kernel, rfl⟩
set_option maxRecDepth 65536 in
theorem wd224 {Z : State} {a0 : Array Value} (hw : ∀ d ∈ tables_1, d.before a0 Z = true) : (Jvm.Cond.methodLink "com/example/horatius/horatius/core/OutlinePageLastAtOrAbovePinLaw" (41 : Nat) ({ cls := "com/example/horatius/horatius/core/OutlinePage", name := "lastAtOrAbove", desc := "(I)I" } : Jvm.MethodName)).before a0 Z = true := hw _ (List.mem_of_getElem? (i := 224) rfl)
set_option maxRecDepth 65536 in
theorem wd225 {Z : State} {a0 : Array Value} (hw : ∀ d ∈ tables_1, d.before a0 Z = true) : (Jvm.Cond.declares ({ cls := "com/example/horatius/horatius/core/OutlinePage", name := "lastAtOrAbove", desc := "(I)I" } : Jvm.MethodName)).before a0 Z = true := hw _ (List.mem_of_getElem? (i := 225) rfl)
set_option maxRecDepth 65536 in
theorem wd227 {Z : State} {a0 : Array Value} (hw : ∀ d ∈ tables_1, d.before a0 Z = true) : (Jvm.Cond.selects "com/example/horatius/horatius/core/OutlinePage" ({ cls := "com/example/horatius/horatius/core/OutlinePage", name := "lastAtOrAbove", desc := "(I)I" } : Jvm.MethodName) ({ cls := "com/example/horatius/horatius/core/OutlinePage", name := "lastAtOrAbove", desc := "(I)I" } : Jvm.MethodName)).before a0 Z = true := hw _ (List.mem_of_getElem? (i := 227) rfl)
set_option maxRecDepth 65536 in
theorem wd226 {Z : State} {a0 : Array Value} (hw : ∀ d ∈ tables_1, d.before a0 Z = true) : (Jvm.Cond.instanceMethod ({ cls := "com/example/horatius/horatius/core/OutlinePage", name := "lastAtOrAbove", desc := "(I)I" } : Jvm.MethodName)).before a0 Z = true := hw _ (List.mem_of_getElem? (i := 226) rfl)
set_option maxRecDepth 65536 in
theorem wd228 {Z : State} {a0 : Array Value} (hw : ∀ d ∈ tables_1, d.before a0 Z = true) : (Jvm.Cond.code ({ cls := "com/example/horatius/horatius/core/OutlinePage", name := "lastAtOrAbove", desc := "(I)I" } : Jvm.MethodName) prog_19_method_22_code (5 : Nat) (Option.some Jvm.ClassFile.FieldType.int)).before a0 Z = true := hw _ (List.mem_of_getElem? (i := 228) rfl)
theorem d0_457 : Dc code 457 (.iload 7) 2 459 := ⟨by decide +kernel, rfl⟩
theorem d0_459 : Dc code 459 (.iload 23) 2 461 := ⟨by decide +kernel, rfl⟩
theorem d0_461 : Dc code 461 .iadd 1 462 := ⟨by decide +kernel, rfl⟩
theorem d0_462 : Db code 462 (.if_icmp .ne 7) 7 465 469 := ⟨by decide +kernel, rfl, by decide, by decide⟩
theorem d0_465 : Dc code 465 (.iconst 1) 1 466 := ⟨by decide +kernel, rfl⟩
theorem d0_466 : Db code 466 (.goto 4) 4 469 470 := ⟨by decide +kernel, rfl, by decide, by decide⟩
theorem d0_470 : Dc code 470 .ireturn 1 471 := ⟨by decide +kernel, rfl⟩
theorem d0_116 : Dc code 116 (.iload 16) 2 118 := ⟨by decide +kernel, rfl⟩
theorem d0_118 : Dc code 118 (.iload 13) 2 120 := ⟨by decide +kernel, rfl⟩
theorem d0_120 : Dc code 120 (.invokestatic 12) 3 123 := ⟨by decide +kernel, rfl⟩
theorem d0_123 : Dc code 123 (.istore 16) 2 125 := ⟨by decide +kernel, rfl⟩
theorem d0_166 : Dc code 166 (.iload 5) 2 168 := ⟨by decide +kernel, rfl⟩
theorem d0_168 : Dc code 168 (.iconst 2) 1 169 := ⟨by decide +kernel, rfl⟩
theorem d0_169 : Db code 169 (.if_icmp .ne 8) 8 172 177 := ⟨by decide +kernel, rfl, by decide, by decide⟩
theorem d0_172 : Dc code 172 (.iload 13) 2 174 := ⟨by decide +kernel, rfl⟩
theorem d0_174 : Db code 174 (.goto 16) 16 177 190 := ⟨by decide +kernel, rfl, by decide, by decide⟩
theorem d0_307 : Dc code 307 (.aload 22) 2 309 := ⟨by decide +kernel, rfl⟩
theorem d0_309 : Dc code 309 (.iload 13) 2 311 := ⟨by decide +kernel, rfl⟩
theorem d0_311 : Dc code 311 (.iconst 0) 1 312 := ⟨by decide +kernel, rfl⟩
theorem d0_312 : Dc code 312 (.iload_n 0) 1 313 := ⟨by decide +kernel, rfl⟩
theorem d0_313 : Dc code 313 (.bipush 9) 2 315 := ⟨by decide +kernel, rfl⟩
theorem d0_315 : Dc code 315 .iushr 1 316 := ⟨by decide +kernel, rfl⟩
theorem d0_316 : Dc code 316 (.iconst 1) 1 317 := ⟨by decide +kernel, rfl⟩
theorem d0_317 : Dc code 317 .iand 1 318 := ⟨by decide +kernel, rfl⟩
theorem d0_318 : Db code 318 (.ifCond .eq 7) 7 321 325 := ⟨by decide +kernel, rfl, by decide, by decide⟩
theorem d0_325 : Dc code 325 (.iconst 0) 1 326 := ⟨by decide +kernel, rfl⟩
theorem d0_321 : Dc code 321 (.iconst 1) 1 322 := ⟨by decide +kernel, rfl⟩
theorem d0_322 : Db code 322 (.goto 4) 4 325 326 := ⟨by decide +kernel, rfl, by decide, by decide⟩
theorem d0_326 : Dc code 326 (.invokevirtual 34) 3 329 := ⟨by decide +kernel, rfl⟩
theorem d0_434 : Dc code 434 (.iload 13) 2 436 := ⟨by decide +kernel, rfl⟩
theorem d0_436 : Dc code 436 (.iload 18) 2 438 := ⟨by decide +kernel, rfl⟩
theorem d0_438 : Db code 438 (.if_icmp .gt 9) 9 441 447 := ⟨by decide +kernel, rfl, by decide, by decide⟩
theorem d0_441 : Dc code 441 (.iconst 1) 1 442 := ⟨by decide +kernel, rfl⟩
theorem d0_442 : Dc code 442 (.istore 23) 2 444 := ⟨by decide +kernel, rfl⟩
theorem d0_444 : Db code 444 (.goto 6) 6 447 450 := ⟨by decide +kernel, rfl, by decide, by decide⟩
theorem d0_131 : Dc code 131 (.iload 16) 2 133 := ⟨by decide +kernel, rfl⟩
theorem d0_133 : Dc code 133 (.iload 14) 2 135 := ⟨by decide +kernel, rfl⟩
theorem d0_135 : Dc code 135 (.invokestatic 12) 3 138 := ⟨by decide +kernel, rfl⟩
theorem d0_138 : Dc code 138 (.istore 16) 2 140 := ⟨by decide +kernel, rfl⟩
theorem d0_177 : Dc code 177 (.iload 5) 2 179 := ⟨by decide +kernel, rfl⟩
theorem d0_179 : Dc code 179 (.iconst 3) 1 180 := ⟨by decide +kernel, rfl⟩
theorem d0_180 : Db code 180 (.if_icmp .ne 8) 8 183 188 := ⟨by decide +kernel, rfl, by decide, by decide⟩
theorem d0_183 : Dc code 183 (.iload 14) 2 185 := ⟨by decide +kernel, rfl⟩
theorem d0_185 : Db code 185 (.goto 5) 5 188 190 := ⟨by decide +kernel, rfl, by decide, by decide⟩
theorem d0_335 : Dc code 335 (.aload 22) 2 337 := ⟨by decide +kernel, rfl⟩
theorem d0_337 : Dc code 337 (.iload 14) 2 339 := ⟨by decide +kernel, rfl⟩
theorem d0_339 : Dc code 339 (.iconst 0) 1 340 := ⟨by decide +kernel, rfl⟩
theorem d0_340 : Dc code 340 (.iload_n 0) 1 341 := ⟨by decide +kernel, rfl⟩
theorem d0_341 : Dc code 341 (.bipush 10) 2 343 := ⟨by decide +kernel, rfl⟩
theorem d0_343 : Dc code 343 .iushr 1 344 := ⟨by decide +kernel, rfl⟩
theorem d0_344 : Dc code 344 (.iconst 1) 1 345 := ⟨by decide +kernel, rfl⟩
theorem d0_345 : Dc code 345 .iand 1 346 := ⟨by decide +kernel, rfl⟩
theorem d0_346 : Db code 346 (.ifCond .eq 7) 7 349 353 := ⟨by decide +kernel, rfl, by decide, by decide⟩
theorem d0_353 : Dc code 353 (.iconst 0) 1 354 := ⟨by decide +kernel, rfl⟩
theorem d0_349 : Dc code 349 (.iconst 1) 1 350 := ⟨by decide +kernel, rfl⟩
theorem d0_350 : Db code 350 (.goto 4) 4 353 354 := ⟨by decide +kernel, rfl, by decide, by decide⟩
theorem d0_354 : Dc code 354 (.invokevirtual 34) 3 357 := ⟨by decide +kernel, rfl⟩
theorem d0_415 : Dc code 415 (.iload 14) 2 417 := ⟨by decide +kernel, rfl⟩
theorem d0_417 : Dc code 417 (.iload 18) 2 419 := ⟨by decide +kernel, rfl⟩
theorem d0_419 : Db code 419 (.if_icmp .gt 9) 9 422 428 := ⟨by decide +kernel, rfl, by decide, by decide⟩
theorem d0_422 : Dc code 422 (.iconst 2) 1 423 := ⟨by decide +kernel, rfl⟩
theorem d0_423 : Dc code 423 (.istore 23) 2 425 := ⟨by decide +kernel, rfl⟩
theorem d0_425 : Db code 425 (.goto 25) 25 428 450 := ⟨by decide +kernel, rfl, by decide, by decide⟩
theorem d0_146 : Dc code 146 (.iload 16) 2 148 := ⟨by decide +kernel, rfl⟩
theorem d0_148 : Dc code 148 (.iload 15) 2 150 := ⟨by decide +kernel, rfl⟩
theorem d0_150 : Dc code 150 (.invokestatic 12) 3 153 := ⟨by decide +kernel, rfl⟩
theorem d0_153 : Dc code 153 (.istore 16) 2 155 := ⟨by decide +kernel, rfl⟩
theorem d0_188 : Dc code 188 (.iload 15) 2 190 := ⟨by decide +kernel, rfl⟩
theorem d0_363 : Dc code 363 (.aload 22) 2 365 := ⟨by decide +kernel, rfl⟩
theorem d0_365 : Dc code 365 (.iload 15) 2 367 := ⟨by decide +kernel, rfl⟩
theorem d0_367 : Dc code 367 (.iconst 0) 1 368 := ⟨by decide +kernel, rfl⟩
theorem d0_368 : Dc code 368 (.iload_n 0) 1 369 := ⟨by decide +kernel, rfl⟩
theorem d0_369 : Dc code 369 (.bipush 11) 2 371 := ⟨by decide +kernel, rfl⟩
theorem d0_371 : Dc code 371 .iushr 1 372 := ⟨by decide +kernel, rfl⟩
theorem d0_372 : Dc code 372 (.iconst 1) 1 373 := ⟨by decide +kernel, rfl⟩
theorem d0_373 : Dc code 373 .iand 1 374 := ⟨by decide +kernel, rfl⟩
theorem d0_374 : Db code 374 (.ifCond .eq 7) 7 377 381 := ⟨by decide +kernel, rfl, by decide, by decide⟩
theorem d0_381 : Dc code 381 (.iconst 0) 1 382 := ⟨by decide +kernel, rfl⟩
theorem d0_377 : Dc code 377 (.iconst 1) 1 378 := ⟨by decide +kernel, rfl⟩
theorem d0_378 : Db code 378 (.goto 4) 4 381 382 := ⟨by decide +kernel, rfl, by decide, by decide⟩
theorem d0_382 : Dc code 382 (.invokevirtual 34) 3 385 := ⟨by decide +kernel, rfl⟩
theorem d0_396 : Dc code 396 (.iload 15) 2 398 := ⟨by decide +kernel, rfl⟩
theorem d0_398 : Dc code 398 (.iload 18) 2 400 := ⟨by decide +kernel, rfl⟩
theorem d0_400 : Db code 400 (.if_icmp .gt 9) 9 403 409 := ⟨by decide +kernel, rfl, by decide, by decide⟩
theorem d0_403 : Dc code 403 (.iconst 3) 1 404 := ⟨by decide +kernel, rfl⟩
theorem d0_404 : Dc code 404 (.istore 23) 2 406 := ⟨by decide +kernel, rfl⟩
theorem d0_406 : Db code 406 (.goto 44) 44 409 450 := ⟨by decide +kernel, rfl, by decide, by decide⟩
theorem ef0 (m : MethodId) (x0 : Int32) (x1 : Int32) (x2 : Int32) (x3 : Int32) (x4 : Int32) : entryFrame m #[.int x0, .int x1, .int x2, .int x3, .int x4] maxLocals = mkF m 0 #[.val (.int x0), .val (.int x1), .val (.int x2), .val (.int x3), .val (.int x4), .unset, .unset, .unset, .unset, .unset, .unset, .unset, .unset, .unset, .unset, .unset, .unset, .unset, .unset, .unset, .unset, .unset, .unset, .unset] [] := by first | (simp [entryFrame, mkF, argsToLocals, Value.category, maxLocals]; done) | rfl
theorem pn0 : plainFor (x : MethodName) = true := plainFor_of_name (by show plainName "com/example/horatius/horatius/core/OutlinePageLastAtOrAbovePinLaw" = true; first | (simp [plainName, overriddenIn]; done) | decide +kernel)
set_option maxRecDepth 65536 in
theorem wd11 {Z : State} {a0 : Array Value} (hw : ∀ d ∈ tables_1, d.before a0 Z = true) : (Jvm.Cond.initialized "com/example/horatius/horatius/core/NodeKind").before a0 Z = true := hw _ (List.mem_of_getElem? (i := 11) rfl)
set_option maxRecDepth 65536 in
theorem wd12 {Z : State} {a0 : Array Value} (hw : ∀ d ∈ tables_1, d.before a0 Z = true) : (Jvm.Cond.laysStatic "com/example/horatius/horatius/core/NodeKind" "ELEMENT" "Lcom/example/horatius/horatius/core/NodeKind;").before a0 Z = true := hw _ (List.mem_of_getElem? (i := 12) rfl)
set_option maxRecDepth 65536 in
theorem wd156 {Z : State} {a0 : Array Value} (hw : ∀ d ∈ tables_1, d.before a0 Z = true) : (Jvm.Cond.laysStatic "com/example/horatius/horatius/core/NodeKind" "ATTRIBUTE" "Lcom/example/horatius/horatius/core/NodeKind;").before a0 Z = true := hw _ (List.mem_of_getElem? (i := 156) rfl)
set_option maxRecDepth 65536 in
theorem wd168 {Z : State} {a0 : Array Value} (hw : ∀ d ∈ tables_1, d.before a0 Z = true) : (Jvm.Cond.laysStatic "com/example/horatius/horatius/core/NodeKind" "COMMENT" "Lcom/example/horatius/horatius/core/NodeKind;").before a0 Z = true := hw _ (List.mem_of_getElem? (i := 168) rfl)
set_option maxRecDepth 65536 in
theorem wd170 {Z : State} {a0 : Array Value} (hw : ∀ d ∈ tables_1, d.before a0 Z = true) : (Jvm.Cond.laysStatic "com/example/horatius/horatius/core/NodeKind" "PROCESSING_INSTRUCTION" "Lcom/example/horatius/horatius/core/NodeKind;").before a0 Z = true := hw _ (List.mem_of_getElem? (i := 170) rfl)
set_option maxRecDepth 65536 in
theorem wd158 {Z : State} {a0 : Array Value} (hw : ∀ d ∈ tables_1, d.before a0 Z = true) : (Jvm.Cond.initialized "com/example/horatius/horatius/core/AttributeType").before a0 Z = true := hw _ (List.mem_of_getElem? (i := 158) rfl)
set_option maxRecDepth 65536 in
theorem wd159 {Z : State} {a0 : Array Value} (hw : ∀ d ∈ tables_1, d.before a0 Z = true) : (Jvm.Cond.laysStatic "com/example/horatius/horatius/core/AttributeType" "OTHER" "Lcom/example/horatius/horatius/core/AttributeType;").before a0 Z = true := hw _ (List.mem_of_getElem? (i := 159) rfl)
set_option maxRecDepth 65536 in
theorem wd144 {Z : State} {a0 : Array Value} (hw : ∀ d ∈ tables_1, d.before a0 Z = true) : (Jvm.Cond.laysStatic "com/example/horatius/horatius/core/OutlinePage" "KINDS" "[Lcom/example/horatius/horatius/core/NodeKind;").before a0 Z = true := hw _ (List.mem_of_getElem? (i := 144) rfl)
/-! small numbers as ints -/
theorem own_nn {i : Nat} (h : i < 2 ^ 31) : ¬ Int32.ofNat i < 0 := by
  rw [Int32.lt_iff_toInt_lt, toInt_of rfl h]
  have : (0 : Int32).toInt = 0 := rfl
  omega
theorem own_lt {i j : Nat} (hi : i < 2 ^ 31) (hj : j < 2 ^ 31) : Int32.ofNat i < Int32.ofNat j ↔ i < j := by
  rw [Int32.lt_iff_toInt_lt, toInt_of rfl hi, toInt_of rfl hj]; omega
theorem own_inj {i j : Nat} (hi : i < 2 ^ 31) (hj : j < 2 ^ 31) (h : Int32.ofNat i = Int32.ofNat j) : i = j := by
  have := congrArg Int32.toInt h
  rw [toInt_of rfl hi, toInt_of rfl hj] at this; omega
theorem own_below {j : Int32} {n : Nat} (hn : n < 2 ^ 31) (h1 : ¬ j < 0) (h2 : j < Int32.ofNat n) : j.toNatClampNeg < n := by
  rw [Int32.lt_iff_toInt_lt, toInt_of rfl hn, nat_of h1] at h2; omega
theorem own_clamp {j : Int32} {i : Nat} (hj : ¬ j < 0) (hi : i < 2 ^ 31) : j = Int32.ofNat i ↔ j.toNatClampNeg = i := by
  constructor
  · rintro rfl; exact clamp_of rfl hi
  · intro q
    apply Int32.toInt_inj.mp
    rw [toInt_of rfl hi, nat_of hj, q]
/-! numbers -/
def intF (g : Nat → Int32) : Int32 → Value := fun j => .int (g j.toNatClampNeg)
def dF (e : Nat → Int32) (k : Nat) : Int32 → Value := fun j => .int (if j.toNatClampNeg < k then e j.toNatClampNeg else 0)
theorem intF_int (g : Nat → Int32) : ∀ j, ∃ x, intF g j = .int x := fun j => ⟨_, rfl⟩
theorem zero_int : ∀ j : Int32, ∃ x, (fun _ : Int32 => Value.int 0) j = .int x := fun _ => ⟨_, rfl⟩
theorem own_ri (g : Nat → Int32) {i : Nat} (h : i < 2 ^ 31) : intF g (Int32.ofNat i) = .int (g i) := by unfold intF; rw [clamp_of rfl h]
theorem own_rd (e : Nat → Int32) {i k : Nat} (hk : i < k) (h : i < 2 ^ 31) : dF e k (Int32.ofNat i) = .int (e i) := by unfold dF; rw [clamp_of rfl h, if_pos hk]
def upd (g : Nat → Int32) (c : Nat) (x : Int32) : Nat → Int32 := fun j => if j = c then x else g j
def updN (w : Nat → Nat) (c i : Nat) : Nat → Nat := fun j => if j = c then i else w j
theorem own_upd (g : Nat → Int32) {c : Nat} (hc : c < 2 ^ 31) (x : Int32) (N : Int32) : ∀ j : Int32, ¬ j < 0 → j < N → (fun k_ => if k_ = Int32.ofNat c then Value.int x else intF g k_) j = intF (upd g c x) j := by
  intro j h1 _
  show (if j = Int32.ofNat c then Value.int x else intF g j) = .int (if j.toNatClampNeg = c then x else g j.toNatClampNeg)
  by_cases q : j.toNatClampNeg = c
  · rw [if_pos q, if_pos ((own_clamp h1 hc).mpr q)]
  · rw [if_neg q, if_neg (fun u => q ((own_clamp h1 hc).mp u))]; rfl
theorem own_dput (e : Nat → Int32) {k : Nat} (hk : k < 2 ^ 31) (N : Int32) : ∀ j : Int32, ¬ j < 0 → j < N → (fun k_ => if k_ = Int32.ofNat k then Value.int (e k) else dF e k k_) j = dF e (k + 1) j := by
  intro j h1 _
  show (if j = Int32.ofNat k then Value.int (e k) else .int (if j.toNatClampNeg < k then e j.toNatClampNeg else 0)) = .int (if j.toNatClampNeg < k + 1 then e j.toNatClampNeg else 0)
  by_cases q : j.toNatClampNeg = k
  · rw [if_pos ((own_clamp h1 hk).mpr q), if_pos (by omega), q]
  · rw [if_neg (fun u => q ((own_clamp h1 hk).mp u))]
    by_cases q2 : j.toNatClampNeg < k
    · rw [if_pos q2, if_pos (by omega)]
    · rw [if_neg q2, if_neg (by omega)]
theorem own_dzero (e : Nat → Int32) (N : Int32) : ∀ j : Int32, ¬ j < 0 → j < N → (fun _ => Value.int 0) j = dF e 0 j := by
  intro j _ _
  show Value.int 0 = .int (if j.toNatClampNeg < 0 then _ else 0)
  rw [if_neg (by omega)]
theorem own_dec (m : Nat) : Int32.ofNat (m + 1) - (1 : Int32) = Int32.ofNat m := by
  have : Int32.ofNat (m + 1) = Int32.ofNat m + 1 := by
    have := Int32.ofNat_add m 1; exact this
  rw [this]; exact Int32.add_sub_cancel _ _
theorem own_inc (m : Nat) : Int32.ofNat m + (1 : Int32) = Int32.ofNat (m + 1) := (Int32.ofNat_add m 1).symm
theorem own_sumI {x : Int32} {c : Nat} (h0 : 0 ≤ x.toInt) (h : x.toInt + c < 2147483648) : (x + Int32.ofNat c).toInt = x.toInt + c := by
  have a := c_iadd x (Int32.ofNat c)
  have b : (Int32.ofNat c).toInt = c := toInt_of rfl (by omega)
  have r := rng32 (x + Int32.ofNat c)
  omega
theorem own_ltI {x y : Int32} : x < y ↔ x.toInt < y.toInt := Int32.lt_iff_toInt_lt
theorem own_pl1 {x ob : Int32} {oc : Nat} (h1 : 1 ≤ ob.toInt) (h2 : ob.toInt + oc < 2147483648) : x < ob + Int32.ofNat oc ↔ x.toInt < ob.toInt + oc := by rw [own_ltI, own_sumI (by omega) h2]
theorem own_ob {ob : Int32} (h1 : 1 ≤ ob.toInt) : (ob - 1).toInt = ob.toInt - 1 := by
  have a := c_isub ob 1
  have b : (1 : Int32).toInt = 1 := rfl
  have r := rng32 (ob - 1); have r2 := rng32 ob
  omega
theorem own_pidx {x ob : Int32} {oc : Nat} (h : ob.toInt + oc = x.toInt) (hn : ¬ x - 1 < ob) (h1 : 1 ≤ ob.toInt) (h4 : oc ≤ 4) : 1 ≤ oc ∧ x - 1 - ob = Int32.ofNat (oc - 1) := by
  have hx := own_ob (ob := x) (by omega)
  rw [own_ltI, hx] at hn
  have ho : 1 ≤ oc := by omega
  refine ⟨ho, ?_⟩
  apply Int32.toInt_inj.mp
  rw [toInt_of rfl (by omega)]
  have a := c_isub (x - 1) ob
  have r := rng32 (x - 1 - ob); have r2 := rng32 x
  omega
def own_mn (x y : Int32) : Int32 := if y < x then y else x
theorem own_mn1 {x y : Int32} (h : y < x) : own_mn x y = y := if_pos h
theorem own_mn0 {x y : Int32} (h : ¬ y < x) : own_mn x y = x := if_neg h
theorem own_mnI (x y : Int32) : (own_mn x y).toInt ≤ x.toInt ∧ (own_mn x y).toInt ≤ y.toInt ∧ (own_mn x y = x ∨ own_mn x y = y) := by
  by_cases h : y < x
  · rw [own_mn1 h]; rw [own_ltI] at h; exact ⟨by omega, by omega, Or.inr rfl⟩
  · rw [own_mn0 h]; rw [own_ltI] at h; exact ⟨by omega, by omega, Or.inl rfl⟩
def own_ls (k : Nat) (ld x : Int32) : Int32 := if k = 0 then x else own_mn ld x
theorem own_mnN {N m : Nat} (h : m < N) (hN : N < 2 ^ 31) : own_mn (Int32.ofNat N) (Int32.ofNat m) = Int32.ofNat m := own_mn1 ((own_lt (by omega) hN).mpr h)
/-! strict minima from the front -/
def PMin (f : Nat → Int32) (i c : Nat) (w : Nat → Nat) : Prop := (∀ j, j < c → w j < i ∧ ∀ i', i' < w j → f (w j) < f i') ∧ (∀ j1 j2, j1 < j2 → j2 < c → w j1 < w j2) ∧ ∀ i', i' < i → (∀ i'', i'' < i' → f i' < f i'') → ∃ j, j < c ∧ w j = i'
def Lst (f : Nat → Int32) (i : Nat) (L : Int32) : Prop := (∀ i', i' < i → ¬ f i' < L) ∧ (i = 0 ∧ L = 2147483647 ∨ ∃ i', i' < i ∧ f i' = L)
theorem PMin.zero (f : Nat → Int32) (w : Nat → Nat) : PMin f 0 0 w := ⟨fun j h => absurd h (by omega), fun _ _ _ h => absurd h (by omega), fun _ h => absurd h (by omega)⟩
theorem Lst.zero (f : Nat → Int32) : Lst f 0 2147483647 := ⟨fun _ h => absurd h (by omega), Or.inl ⟨rfl, rfl⟩⟩
theorem PMin.yes {f : Nat → Int32} {i c : Nat} {w : Nat → Nat} {L : Int32} (P : PMin f i c w) (H : Lst f i L) (h : f i < L) : PMin f (i + 1) (c + 1) (updN w c i) := by
  obtain ⟨p1, p2, p3⟩ := P
  have e0 : updN w c i c = i := if_pos rfl
  have e1 : ∀ {j}, j < c → updN w c i j = w j := fun {j} hj => if_neg (by omega)
  have hi : ∀ i', i' < i → f i < f i' := fun i' hi' => by
    have := H.1 i' hi'
    rw [own_ltI] at this h ⊢; omega
  refine ⟨fun j hj => ?_, fun j1 j2 h1 h2 => ?_, fun i' hi' q => ?_⟩
  · by_cases q : j = c
    · subst q; rw [e0]; exact ⟨by omega, hi⟩
    · rw [e1 (by omega)]; have := p1 j (by omega); exact ⟨by omega, this.2⟩
  · by_cases q : j2 = c
    · subst q; rw [e0, e1 h1]; exact (p1 j1 h1).1
    · rw [e1 (by omega), e1 (by omega)]; exact p2 j1 j2 h1 (by omega)
  · by_cases u : i' = i
    · exact ⟨c, by omega, by rw [e0, u]⟩
    · obtain ⟨j, hj, ej⟩ := p3 i' (by omega) q
      exact ⟨j, by omega, by rw [e1 hj, ej]⟩
theorem PMin.no {f : Nat → Int32} {i c : Nat} {w : Nat → Nat} {L : Int32} (P : PMin f i c w) (H : Lst f i L) (h : ¬ f i < L) (hm : f i < 2147483647) : PMin f (i + 1) c w := by
  obtain ⟨p1, p2, p3⟩ := P
  refine ⟨fun j hj => ⟨Nat.lt_succ_of_lt (p1 j hj).1, (p1 j hj).2⟩, p2, fun i' hi' q => ?_⟩
  by_cases u : i' = i
  · subst u
    rcases H.2 with ⟨_, rfl⟩ | ⟨i', hi', e⟩
    · exact absurd hm h
    · have := q i' hi'; rw [e] at this; exact absurd this h
  · exact p3 i' (by omega) q
theorem Lst.yes {f : Nat → Int32} {i : Nat} {L : Int32} (H : Lst f i L) (h : f i < L) : Lst f (i + 1) (f i) := by
  refine ⟨fun i' hi' q => ?_, Or.inr ⟨i, by omega, rfl⟩⟩
  by_cases u : i' = i
  · subst u; exact absurd q (by rw [own_ltI]; omega)
  · have := H.1 i' (by omega); rw [own_ltI] at *; omega
theorem Lst.no {f : Nat → Int32} {i : Nat} {L : Int32} (H : Lst f i L) (h : ¬ f i < L) (hm : f i < 2147483647) : Lst f (i + 1) L := by
  refine ⟨fun i' hi' q => ?_, ?_⟩
  · by_cases u : i' = i
    · subst u; exact h q
    · exact H.1 i' (by omega) q
  · rcases H.2 with ⟨_, rfl⟩ | ⟨i', hi', e⟩
    · exact absurd hm h
    · exact Or.inr ⟨i', by omega, e⟩
theorem PMin.pos {f : Nat → Int32} {n c : Nat} {w : Nat → Nat} (P : PMin f n c w) (h : 1 ≤ n) : 1 ≤ c := by
  obtain ⟨j, hj, -⟩ := P.2.2 0 (by omega) (fun _ q => absurd q (by omega)); omega
/-- the place looked for lies in the list, and parts it -/
theorem PMin.find {e : Nat → Int32} {n c r : Nat} {w : Nat → Nat} {d : Int32} (P : PMin (fun i => e (n - 1 - i)) n c w) (hr : r < n) (h1 : ¬ d < e r) (h2 : ∀ x, r < x → x < n → d < e x) :
    ∃ jr, jr < c ∧ n - 1 - w (c - 1 - jr) = r ∧ ∀ j, j < c → (d < e (n - 1 - w (c - 1 - j)) ↔ jr < j) := by
  obtain ⟨p1, p2, p3⟩ := P
  obtain ⟨j, hj, ej⟩ := p3 (n - 1 - r) (by omega) (fun i' hi' => by
    show e (n - 1 - (n - 1 - r)) < e (n - 1 - i')
    have := h2 (n - 1 - i') (by omega) (by omega)
    rw [show n - 1 - (n - 1 - r) = r by omega]
    rw [own_ltI] at *; omega)
  refine ⟨c - 1 - j, by omega, ?_, fun j2 hj2 => ?_⟩
  · rw [show c - 1 - (c - 1 - j) = j by omega, ej]; omega
  · have hw := p1 (c - 1 - j2) (by omega)
    constructor
    · intro q
      refine Nat.lt_of_not_le (fun u => ?_)
      by_cases v : j = c - 1 - j2
      · rw [← v, ej, show n - 1 - (n - 1 - r) = r by omega] at q; exact h1 q
      · have lt := p2 j (c - 1 - j2) (by omega) (by omega)
        have := hw.2 (w j) lt
        rw [ej] at this
        have this : e (n - 1 - w (c - 1 - j2)) < e (n - 1 - (n - 1 - r)) := this
        rw [show n - 1 - (n - 1 - r) = r by omega] at this
        rw [own_ltI] at *; omega
    · intro q
      have lt := p2 (c - 1 - j2) j (by omega) hj
      exact h2 _ (by omega) (by omega)
def Pg (Z : State) (h : Heap) (pg su ki na de pa sb ga op : Addr) (st sz : Int32) (pk : Value) (pd ob oc : Int32) : Prop := Fld Z h pg "com/example/horatius/horatius/core/OutlinePage" "start" "I" (.int st) ∧ Fld Z h pg "com/example/horatius/horatius/core/OutlinePage" "summary" "Lcom/example/horatius/horatius/core/PageSummary;" (.ref su) ∧ Fld Z h pg "com/example/horatius/horatius/core/OutlinePage" "nameCount" "I" (.int 1) ∧ Fld Z h pg "com/example/horatius/horatius/core/OutlinePage" "kinds" "[B" (.ref ki) ∧ Fld Z h pg "com/example/horatius/horatius/core/OutlinePage" "names" "[I" (.ref na) ∧ Fld Z h pg "com/example/horatius/horatius/core/OutlinePage" "depths" "[I" (.ref de) ∧ Fld Z h pg "com/example/horatius/horatius/core/OutlinePage" "parents" "[I" (.ref pa) ∧ Fld Z h pg "com/example/horatius/horatius/core/OutlinePage" "subtreeEnds" "[I" (.ref sb) ∧ Fld Z h pg "com/example/horatius/horatius/core/OutlinePage" "gathered" "Lcom/example/horatius/horatius/core/PageSummary;" (.ref ga) ∧ Fld Z h pg "com/example/horatius/horatius/core/OutlinePage" "size" "I" (.int sz) ∧ Fld Z h pg "com/example/horatius/horatius/core/OutlinePage" "previousKind" "Lcom/example/horatius/horatius/core/NodeKind;" pk ∧ Fld Z h pg "com/example/horatius/horatius/core/OutlinePage" "previousDepth" "I" (.int pd) ∧ Fld Z h pg "com/example/horatius/horatius/core/OutlinePage" "openBefore" "I" (.int ob) ∧ Fld Z h pg "com/example/horatius/horatius/core/OutlinePage" "open" "[I" (.ref op) ∧ Fld Z h pg "com/example/horatius/horatius/core/OutlinePage" "openCount" "I" (.int oc) ∧ Fld Z h pg "com/example/horatius/horatius/core/OutlinePage" "shallowestFromStart" "[I" .null ∧ Fld Z h pg "com/example/horatius/horatius/core/OutlinePage" "shallowestToEnd" "[I" .null ∧ Fld Z h pg "com/example/horatius/horatius/core/OutlinePage" "ended" "Z" (.int 0)
def Ga (Z : State) (h : Heap) (ga ag : Addr) (nd ld : Int32) (lk : Value) (lp : Int32) : Prop := Fld Z h ga "com/example/horatius/horatius/core/PageSummary" "nodes" "I" (.int nd) ∧ Fld Z h ga "com/example/horatius/horatius/core/PageSummary" "leastDepth" "I" (.int ld) ∧ Fld Z h ga "com/example/horatius/horatius/core/PageSummary" "lastKind" "Lcom/example/horatius/horatius/core/NodeKind;" lk ∧ Fld Z h ga "com/example/horatius/horatius/core/PageSummary" "lastDepth" "I" (.int lp) ∧ Fld Z h ga "com/example/horatius/horatius/core/PageSummary" "topElements" "I" (.int 0) ∧ Fld Z h ga "com/example/horatius/horatius/core/PageSummary" "typedAttributes" "I" (.int 0) ∧ Fld Z h ga "com/example/horatius/horatius/core/PageSummary" "asides" "[I" (.ref ag) ∧ Fld Z h ga "com/example/horatius/horatius/core/PageSummary" "asideCount" "I" (.int 0)
def Od (ek kd su sa pg ga ag op ki na de pa sb : Addr) : Prop := (ek < pg ∧ kd < pg ∧ su < pg ∧ sa < pg) ∧ pg < ga ∧ ga < ag ∧ ag < op ∧ op < ki ∧ ki < na ∧ na < de ∧ de < pa ∧ pa < sb
def Stt (Z : State) (h : Heap) (ek aq cq pq oq kd : Addr) (fd : Int32 → Value) : Prop := Sta Z h "com/example/horatius/horatius/core/NodeKind" "ELEMENT" "Lcom/example/horatius/horatius/core/NodeKind;" (.ref ek) ∧ Sta Z h "com/example/horatius/horatius/core/NodeKind" "ATTRIBUTE" "Lcom/example/horatius/horatius/core/NodeKind;" (.ref aq) ∧ Sta Z h "com/example/horatius/horatius/core/NodeKind" "COMMENT" "Lcom/example/horatius/horatius/core/NodeKind;" (.ref cq) ∧ Sta Z h "com/example/horatius/horatius/core/NodeKind" "PROCESSING_INSTRUCTION" "Lcom/example/horatius/horatius/core/NodeKind;" (.ref pq) ∧ Sta Z h "com/example/horatius/horatius/core/AttributeType" "OTHER" "Lcom/example/horatius/horatius/core/AttributeType;" (.ref oq) ∧ Sta Z h "com/example/horatius/horatius/core/OutlinePage" "KINDS" "[Lcom/example/horatius/horatius/core/NodeKind;" (.ref kd) ∧ Ia Z h kd (.object "com/example/horatius/horatius/core/NodeKind") (6 : Int32) fd ∧ Exa Z h ek "com/example/horatius/horatius/core/NodeKind" ∧ Fld Z h ek "java/lang/Enum" "ordinal" "I" (.int 1) ∧ fd 1 = .ref ek ∧ ek ≠ aq ∧ ek ≠ cq ∧ ek ≠ pq
section Own2
variable {E : Ev} {y : MethodName} {bytes : ByteArray} {ml : Nat} {rt : Option FieldType} {l : Launch} {Z : State} {R : Room} {n0 : Nat} {Q : Option Value → Heap → Prop} {a0 : Array Value} {h h' : Heap} {kc kn kc' kn' pc pc' pc1 pc2 : Nat} {ls ls' : Array Slot} {st : List Value} {a b : Addr}
/-- a new int[] with its class -/
theorem Kx.newPX (K : Kx E y bytes ml rt l Z R n0 Q) {N : Int32} (cap kc' kn' : Nat) (hd : Dc bytes pc (.newarray .int) 2 pc') (w : (Jvm.Cond.arrayClass .int).before a0 Z = true) (hN : ¬ N < 0) (hcap : N.toNatClampNeg ≤ cap) (h8 : cap * 8 ≤ 536870912)
    (hk : kc + 1 = kc') (hk2 : kn + cap = kn') (hc : kc' ≤ R.cells) (hl : kn' ≤ R.slots)
    (k : ∀ h' a, a = h.size → n0 ≤ a → Ext h h' → Ia Z h' a .int N (fun _ => .int 0) → Exa Z h' a "[I" → Wk E h' kc' kn' pc' ls (.ref a :: st)) : Wk E h kc kn pc ls (.int N :: st) := by
  obtain ⟨hd, rfl⟩ := hd
  refine K.move (fun p e s m args below meth c G T locs X eT N' => ?_)
  obtain ⟨g1, g2, g3, g4, g5, hZ, hown, g8, g9⟩ := G
  have hn : n0 ≤ h.size := by rw [← eT]; exact Nat.le_trans g9 X.same.2.1
  subst hk hk2
  obtain ⟨T', h', cA, X', e', E', A', EX, q'⟩ := RoadKit.newPE X g1 hZ (aty := .int) w eT (g := mkF m pc ls (.int N :: st)) rfl (hb g2 hd) rfl hN hcap h8 hc hl (ad := "[I") rfl
  exact ⟨T', _, _, _, _, _, _, _, X', e', N', E'.1, k h' h.size rfl hn E' (Ia.new A' hN) EX, fun t q => q' t q⟩
theorem own_fit {N : Int32} {f : Int32 → Value} {c : Cell} (A : Arr Z h a c .int) (S : c.slots.size = N.toNatClampNeg) (M : ¬ N < 0) (G : ∀ j : Int32, ¬ j < 0 → j < N → c.slots[j.toNatClampNeg]? = some (f j)) (hf : ∀ j, ∃ x, f j = .int x) : ∀ i, i < c.slots.size → ∃ x, c.slots[i]? = some (.int x) := by
  intro i hi
  have hb : N.toNatClampNeg < 2 ^ 31 := by
    have := Int32.toInt_lt N
    simp only [Int32.toNatClampNeg]; omega
  have hi2 : i < 2 ^ 31 := by omega
  obtain ⟨x, hx⟩ := hf (Int32.ofNat i)
  have := G (Int32.ofNat i) (own_nn hi2) (by rw [Int32.lt_iff_toInt_lt, toInt_of rfl hi2, nat_of M]; omega)
  rw [clamp_of rfl hi2] at this
  exact ⟨x, by rw [this, hx]⟩
theorem Kx.cloneI (K : Kx E y bytes ml rt l Z R n0 Q) {i : Nat} {N : Int32} {f : Int32 → Value} (W cap kc' kn' : Nat) (hd : Dc bytes pc (.invokevirtual i) 3 pc')
    (w1 : (Cond.methodLink y.cls i ⟨"[I", "clone", "()Ljava/lang/Object;"⟩).before a0 Z = true) (w2 : (Cond.sameMethod "[I" "java/lang/Object" "clone" "()Ljava/lang/Object;").before a0 Z = true) (w3 : (Cond.native ⟨"java/lang/Object", "clone", "()Ljava/lang/Object;"⟩).before a0 Z = true)
    (w4 : (Cond.instanceMethod ⟨"java/lang/Object", "clone", "()Ljava/lang/Object;"⟩).before a0 Z = true) (w5 : (Cond.selects "[I" ⟨"[I", "clone", "()Ljava/lang/Object;"⟩ ⟨"java/lang/Object", "clone", "()Ljava/lang/Object;"⟩).before a0 Z = true) (w6 : (Cond.castable "[I" "java/lang/Cloneable").before a0 Z = true)
    (A : Ia Z h a .int N f) (hf : ∀ j, ∃ x, f j = .int x) (EX : Exa Z h a "[I") (hsz : ls.size = ml) (hfr : 1 ≤ R.frames) (hW : (st.map fun v => v.category).sum ≤ W) (hlo : W + 14 ≤ R.locals) (hcap : N.toNatClampNeg ≤ cap)
    (hk : kc + 1 = kc') (hk2 : kn + cap = kn') (hc : kc' ≤ R.cells) (hl : kn' ≤ R.slots)
    (k : ∀ h' a, a = h.size → n0 ≤ a → Ext h h' → Ia Z h' a .int N f → Exa Z h' a "[I" → Wk E h' kc' kn' pc' ls (.ref a :: st)) : Wk E h kc kn pc ls (.ref a :: st) := by
  obtain ⟨hd, rfl⟩ := hd
  refine K.move (fun p e s m args below meth c G T locs X eT N' => ?_)
  obtain ⟨g1, g2, g3, g4, g5, hZ, hown, g8, g9⟩ := G
  have hn : n0 ≤ h.size := by rw [← eT]; exact Nat.le_trans g9 X.same.2.1
  subst hk hk2
  obtain ⟨cl, Ar, S, M, G⟩ := A
  have FC : FitC Z cl := fitC_of Ar fun i hi v hv => by obtain ⟨x, hx⟩ := own_fit Ar S M G hf i hi; rw [hx] at hv; cases hv; rfl
  obtain ⟨T', h', X', e', E', A', EX', q'⟩ := RoadKit.cloneA X g1 hZ hown w1 w2 w3 w4 w5 w6 eT Ar EX FC (g := mkF m pc ls (.ref a :: st)) rfl (by rw [g3]; exact hsz) rfl (hb g2 hd) hfr (W := W) (by show 2 * 0 + _ ≤ _; omega) hlo (by rw [S]; exact hcap) hc hl
  exact ⟨T', _, _, _, _, _, _, _, X', e', N', E'.1, k h' h.size rfl hn E' ⟨_, A', S, M, G⟩ EX', fun t q => q' t q⟩
theorem own_arv {N : Int32} {f : Int32 → Value} (A : Ia Z h a .int N f) (hf : ∀ j, ∃ x, f j = .int x) : ∃ k, Arv Z h a k .int N ((List.range N.toNatClampNeg).map fun i => f (Int32.ofNat i)) (.int 0) := by
  obtain ⟨c, Ar, S, M, G⟩ := A
  have hb : N.toNatClampNeg < 2 ^ 31 := by
    have := Int32.toInt_lt N
    simp only [Int32.toNatClampNeg]; omega
  refine ⟨c.cls, c, Ar, rfl, S, M, fun i hi => ?_, fun i hi => ?_⟩
  · have hi2 : i < 2 ^ 31 := by omega
    have := G (Int32.ofNat i) (own_nn hi2) (by rw [Int32.lt_iff_toInt_lt, toInt_of rfl hi2, nat_of M]; omega)
    rw [clamp_of rfl hi2] at this
    rw [this, List.getD_eq_getElem?_getD, List.getElem?_map, List.getElem?_range (by omega)]; rfl
  · rw [List.getD_eq_getElem?_getD, List.getElem?_map, List.getElem?_range (by omega)]
    obtain ⟨x, hx⟩ := hf (Int32.ofNat i)
    show fits .int (f (Int32.ofNat i)) = true
    rw [hx]; rfl
theorem Kx.copyI (K : Kx E y bytes ml rt l Z R n0 Q) {i n m N : Nat} {f g : Int32 → Value} (W : Nat) (hd : Dc bytes pc (.invokestatic i) 3 pc')
    (w1 : (Cond.methodLink y.cls i Jvm.Stand.acN).before a0 Z = true) (w2 : (Cond.native Jvm.Stand.acN).before a0 Z = true) (w3 : (Cond.static Jvm.Stand.acN).before a0 Z = true) (w4 : (Cond.initialized "java/lang/System").before a0 Z = true)
    (A : Ia Z h a .int (Int32.ofNat n) f) (hf : ∀ j, ∃ x, f j = .int x) (B : Ia Z h b .int (Int32.ofNat m) g) (hg : ∀ j, ∃ x, g j = .int x) (hn31 : n < 2 ^ 31) (hm31 : m < 2 ^ 31) (h4 : N ≤ n) (h5 : N ≤ m) (ge : n0 ≤ b)
    (hsz : ls.size = ml) (hfr : 1 ≤ R.frames) (hW : (st.map fun v => v.category).sum ≤ W) (hlo : W + (nativeFrameWords "java/lang/System" "arraycopy" 5 + 11) ≤ R.locals)
    (k : ∀ h', Keep h h' [b] → Ia Z h' b .int (Int32.ofNat m) (fun j => if j.toNatClampNeg < N then f j else g j) → Wk E h' kc kn pc' ls st) : Wk E h kc kn pc ls (.int (Int32.ofNat N) :: .int 0 :: .ref b :: .int 0 :: .ref a :: st) := by
  obtain ⟨hd, rfl⟩ := hd
  refine K.move (fun p e s me args below meth c G T locs X eT N' => ?_)
  obtain ⟨g1, g2, g3, g4, g5, hZ, hown, g8, g9⟩ := G
  obtain ⟨ka, VA⟩ := own_arv A hf
  obtain ⟨kb, VB⟩ := own_arv B hg
  have en : (Int32.ofNat n).toNatClampNeg = n := clamp_of rfl hn31
  have em : (Int32.ofNat m).toNatClampNeg = m := clamp_of rfl hm31
  have eN : (Int32.ofNat N).toNatClampNeg = N := clamp_of rfl (by omega)
  have e0 : (0 : Int32).toNatClampNeg = 0 := rfl
  obtain ⟨T', h', L, X', e', NL, KP, V, q'⟩ := RoadKit.cpA X g1 hZ hown w1 w2 w3 w4 eT (sp := 0) (dp := 0) (nn := Int32.ofNat N) VA VB (Or.inl ⟨rfl, rfl⟩) (by decide) (by decide) (own_nn (by omega)) (by rw [e0, eN, en]; omega) (by rw [e0, eN, em]; omega) rfl (by rw [e0, eN, em]; simp; omega) N' ge
    (g := mkF me pc ls (.int (Int32.ofNat N) :: .int 0 :: .ref b :: .int 0 :: .ref a :: st)) rfl (by rw [g3]; exact hsz) (rest := st) rfl (hb g2 hd) hfr (W := W) (by show 2 * 0 + _ ≤ _; omega) hlo
  refine ⟨T', _, _, _, _, _, _, _, X', e', NL, KP.1, k h' KP ?_, fun t q => q' t q⟩
  obtain ⟨cb, Ab, -, Sb, Mb, Hb, -⟩ := V
  refine ⟨cb, Ab, Sb, Mb, fun j h1 h2 => ?_⟩
  have hj := own_below hm31 h1 h2
  rw [Hb _ (by rw [Sb, em]; exact hj)]
  have ej : Int32.ofNat j.toNatClampNeg = j := ((own_clamp h1 (by omega)).mpr rfl).symm
  show some _ = some (if j.toNatClampNeg < N then f j else g j)
  congr 1
  rw [List.getD_eq_getElem?_getD]
  simp only [e0, eN, en, em, List.take_zero, List.nil_append, Nat.zero_add]
  by_cases u : j.toNatClampNeg < N
  · rw [if_pos u, List.getElem?_append_left (by simpa using u), List.getElem?_map, List.getElem?_range u]
    show ((List.range n).map _).getD _ _ = _
    rw [List.getD_eq_getElem?_getD, List.getElem?_map, List.getElem?_range (by omega)]
    show f _ = f j
    rw [ej]
  · rw [if_neg u, List.getElem?_append_right (by simpa using Nat.le_of_not_lt u), List.getElem?_drop]
    simp only [List.length_map, List.length_range]
    rw [show N + (j.toNatClampNeg - N) = j.toNatClampNeg by omega, List.getElem?_map, List.getElem?_range hj]
    show g _ = g j
    rw [ej]
theorem Kx.callU (K : Kx E y bytes ml rt l Z R n0 Q) {i : Nat} {C owner : String} {x' y' : MethodName} {bytes' : ByteArray} {ml' : Nat} {rt' : Option FieldType} {rm : Room} {Q' : Option Value → Heap → Prop} (as rest : List Value) (W kc' kn' : Nat) (hd : Dc bytes pc (.invokevirtual i) 3 pc')
    (wl : (Jvm.Cond.methodLink y.cls i x').before a0 Z = true) (wsm : (Jvm.Cond.sameMethod x'.cls owner x'.name x'.desc).before a0 Z = true) (wd : (Jvm.Cond.declares ⟨owner, x'.name, x'.desc⟩).before a0 Z = true) (ho : owner ≠ "java/lang/invoke/MethodHandle" ∧ owner ≠ "java/lang/invoke/VarHandle") (wse : (Jvm.Cond.selects C x' y').before a0 Z = true) (wn : (Jvm.Cond.instanceMethod y').before a0 Z = true) (wz : (Jvm.Cond.initialized y'.cls).before a0 Z = true) (wc : (Jvm.Cond.code y' bytes' ml' rt').before a0 Z = true)
    (con : Con l Z y' bytes' ml' rt' rm (.ref a :: as).toArray h n0 Q') (X0 : Exa Z h a C) (hst : st = as.reverse ++ .ref a :: rest) (hlen : ∀ sig, parseMethodDescriptor x'.desc = some sig → as.length = sig.parameters.length) (hsz : ls.size = ml) (hW : (rest.map fun v => v.category).sum ≤ W)
    (hf : rm.frames + 1 ≤ R.frames) (hlo : W + (ml' + 11) + rm.locals ≤ R.locals) (hk : kc + rm.cells = kc') (hk2 : kn + rm.slots = kn') (hc : kc' ≤ R.cells) (hl : kn' ≤ R.slots)
    (k : ∀ v h', Q' v h' → Wk E h' kc' kn' pc' ls (v.toList ++ rest)) : Wk E h kc kn pc ls st := by
  obtain ⟨hd, rfl⟩ := hd
  obtain ⟨p, e, s, m, args, below, meth, c, rfl, g1, g2, g3, g4, g5, hZ, hown, g8, g9⟩ := K
  intro T locs X eT N
  have hn : n0 ≤ h.size := by rw [← eT]; exact Nat.le_trans g9 X.same.2.1
  subst hst hk hk2
  obtain ⟨cq, kq, qa, qb, qc⟩ := isOf hZ eT X0
  obtain ⟨v, vm₁, ⟨T', L', k', n'⟩, -, X', ⟨L, ⟨hQ, hFr⟩, e1, e2, e3⟩, q'⟩ := X.virtualBackUp g1 (x := x') (y := y') hown (mvT hZ wl) (mv hZ wsm) (mvT hZ wd) ho (mvT hZ wse) (mvT hZ wn) (backOf (W := W) (Q := fun v h L => Q' v h ∧ Fr n0 L) (con hn []) hZ wc wz hf hlo) qa qc (g := mkF m pc ls (as.reverse ++ .ref a :: rest)) rfl (by rw [g3]; exact hsz) (Steps.refl _) (argsL := as) (rest := rest) hlen rfl (by show 2 * 0 + _ ≤ _; omega) (hb g2 hd) (fun _ _ => ⟨rfl, eT, hc, hl⟩)
  dsimp only [Pt.U, Pt.locs, Pt.cells, Pt.slots] at X' e1 e2 e3 q' hQ
  subst e1 e2 e3
  obtain ⟨s₂, o, q, r⟩ := k v T'.heap hQ T' _ X' rfl (Fr.app N hFr)
  exact ⟨s₂, o, q'.trans q, r⟩
theorem own_selp {k : Nat} (w : (Jvm.Cond.privateMethod y).before a0 Z = true) (wn : (Jvm.Cond.instanceMethod y).before a0 Z = true) (wi : (Jvm.Cond.instantiable y.cls k).before a0 Z = true) (hy : y.cls ≠ "java/lang/invoke/MethodHandle" ∧ y.cls ≠ "java/lang/invoke/VarHandle") : (Jvm.Cond.selects y.cls y y).before a0 Z = true := by
  obtain ⟨t, k', g1, g2, g3, g4, -⟩ := Cond.instantiable_spec wi
  have g7 : k'.isInterface = false := by
    cases hq : k'.isInterface
    · rfl
    · rw [hq] at g4; cases g4
  exact selects_self_of_private g1 g2 g7 (Cond.privateMethod_at w) wn hy
end Own2
theorem own_four {j : Int32} (h1 : ¬ j < 0) (h2 : j < 4) : j = 0 ∨ j = 1 ∨ j = 2 ∨ j = 3 := by
  have a := own_ltI.mp h2
  have b : (4 : Int32).toInt = 4 := rfl
  have c : ¬ j.toInt < 0 := fun q => h1 (own_ltI.mpr q)
  rw [b] at a
  rcases (show j.toInt = 0 ∨ j.toInt = 1 ∨ j.toInt = 2 ∨ j.toInt = 3 by omega) with q | q | q | q
  · exact Or.inl (Int32.toInt_inj.mp q)
  · exact Or.inr (Or.inl (Int32.toInt_inj.mp q))
  · exact Or.inr (Or.inr (Or.inl (Int32.toInt_inj.mp q)))
  · exact Or.inr (Or.inr (Or.inr (Int32.toInt_inj.mp q)))
theorem own_flag {z : Int32} (h : z = 0 ∨ z = 32) : ((1 : Int32) ||| z) &&& (7 : Int32) = 1 ∧ ((1 : Int32) ||| z).toInt8.toInt32.toInt8.toInt32 &&& (7 : Int32) = 1 := by rcases h with rfl | rfl <;> decide
theorem own_opn {g : Nat → Int32} {oc oc' k n : Nat} (hg : ∀ j, j < oc → ¬ g j < 0 ∧ g j < Int32.ofNat n) (h : oc' ≤ oc) (hk : k < n) (hn : n ≤ 4) : ∀ j, j < oc' + 1 → ¬ upd g oc' (Int32.ofNat k) j < 0 ∧ upd g oc' (Int32.ofNat k) j < Int32.ofNat n := by
  intro j hj
  by_cases q : j = oc'
  · rw [show upd g oc' (Int32.ofNat k) j = Int32.ofNat k from if_pos q]; exact ⟨own_nn (by omega), (own_lt (by omega) (by omega)).mpr hk⟩
  · rw [show upd g oc' (Int32.ofNat k) j = g j from if_neg q]; exact hg j (by omega)
theorem own_gw {g pl : Nat → Int32} {w : Nat → Nat} {c i : Nat} (hG : ∀ j, j < c → g j = pl (w j)) : ∀ j, j < c + 1 → upd g c (pl i) j = pl (updN w c i j) := by
  intro j hj
  by_cases q : j = c
  · rw [show upd g c (pl i) j = pl i from if_pos q, show updN w c i j = i from if_pos q]
  · rw [show upd g c (pl i) j = g j from if_neg q, show updN w c i j = w j from if_neg q]; exact hG j (by omega)
def own_down (n : Nat) (i : Nat) : Int32 := if i < n then Int32.ofNat (n - 1 - i) else -1
theorem own_up1 {n : Nat} (hn : n ≤ 4) : ∀ i, i < n → ¬ Int32.ofNat i = Int32.ofNat n := fun i hi q => absurd (own_inj (by omega) (by omega) q) (by omega)
theorem own_up2 {n : Nat} : ∀ i, i < n → Int32.ofNat i + 1 = Int32.ofNat (i + 1) := fun i _ => own_inc i
theorem own_up3 {n : Nat} : ∀ i, i < n → Int32.ofNat i = Int32.ofNat i ∧ i < n := fun i hi => ⟨rfl, hi⟩
theorem own_dn0 {n : Nat} (h : 1 ≤ n) : own_down n 0 = Int32.ofNat (n - 1) := if_pos h
theorem own_dn1 {n : Nat} : own_down n n = -1 := if_neg (by omega)
theorem own_dn2 {n : Nat} (hn : n ≤ 4) : ∀ i, i < n → ¬ own_down n i = -1 := fun i hi q => by
  rw [own_down, if_pos hi] at q
  have := congrArg Int32.toInt q
  rw [toInt_of rfl (by omega)] at this
  have e : (-1 : Int32).toInt = -1 := rfl
  omega
theorem own_dn3 {n : Nat} (hn : n ≤ 4) : ∀ i, i < n → own_down n i + (-1) = own_down n (i + 1) := by
  intro i hi
  rw [own_down, own_down, if_pos hi]
  rcases (show n = 1 ∨ n = 2 ∨ n = 3 ∨ n = 4 by omega) with rfl | rfl | rfl | rfl <;> rcases (show i = 0 ∨ i = 1 ∨ i = 2 ∨ i = 3 by omega) with rfl | rfl | rfl | rfl <;> first | omega | decide
theorem own_dn4 {n : Nat} : ∀ i, i < n → own_down n i = Int32.ofNat (n - 1 - i) ∧ n - 1 - i < n := fun i hi => ⟨if_pos hi, by omega⟩
theorem own_dsub {n : Nat} (h : 1 ≤ n) : Int32.ofNat n - (1 : Int32) = Int32.ofNat (n - 1) := by
  obtain ⟨m, rfl⟩ : ∃ m, n = m + 1 := ⟨n - 1, by omega⟩
  exact own_dec m
theorem own_hp {e : Nat → Int32} {n c : Nat} {w : Nat → Nat} (hn : n ≤ 4) (P : PMin (fun i => e (n - 1 - i)) n c w) : ∀ i j, i < j → j < c → (fun j => own_down n (w j)) j < (fun j => own_down n (w j)) i := by
  intro i j h1 h2
  have a := P.2.1 i j h1 h2
  have b := (P.1 j h2).1
  show own_down n (w j) < own_down n (w i)
  rw [own_down, own_down, if_pos b, if_pos (by omega)]
  exact (own_lt (by omega) (by omega)).mpr (by omega)
theorem own_srt {e : Nat → Int32} {n c j : Nat} {w : Nat → Nat} (P : PMin (fun i => e (n - 1 - i)) n c w) (hj : j < c) {x : Int32} (ex : x.toNatClampNeg = j := by rfl) : intF (fun j => (fun j => own_down n (w j)) (c - 1 - j)) x = intF (fun j => Int32.ofNat (n - 1 - w (c - 1 - j))) x := by
  subst ex
  show Value.int (own_down n (w (c - 1 - x.toNatClampNeg))) = .int _
  rw [own_down, if_pos (P.1 _ (by omega)).1]
theorem own_mid : ∀ lo, lo < 4 → ∀ hi, hi < 4 → ((Int32.ofNat lo + Int32.ofNat hi + (1 : Int32)).toUInt32 >>> ((1 : Int32) &&& 31).toUInt32).toInt32 = Int32.ofNat ((lo + hi + 1) / 2) := by decide
theorem own_cnt (c : Int32) : ∃ n, (1 : Int32) + (c &&& 3) = Int32.ofNat n ∧ 1 ≤ n ∧ n ≤ 4 := by
  have m := c_mask c 3 2 (by decide) (by decide)
  have a := c_iadd 1 (c &&& 3)
  have e1 : (1 : Int32).toInt = 1 := rfl
  have r := rng32 (1 + (c &&& 3))
  refine ⟨(1 + (c.toInt % 4)).toNat, ?_, by omega, by omega⟩
  apply Int32.toInt_inj.mp
  rw [toInt_of rfl (by omega)]
  have m : (c &&& 3).toInt = c.toInt % 4 := m
  omega
theorem own_base (x : Int32) : ∃ b, (2 : Int32) + ((x &&& 2147483647) % 2147483629) = b ∧ 2 ≤ b.toInt ∧ b.toInt ≤ 2147483630 := by
  have m : (x &&& 2147483647).toInt = x.toInt % 2147483648 := c_mask x 2147483647 31 (by decide) (by decide)
  have i := (c_irem (x &&& 2147483647) 2147483629 2147483629 rfl).1 (by omega)
  have a := c_iadd 2 ((x &&& 2147483647) % 2147483629)
  have e1 : (2 : Int32).toInt = 2 := rfl
  have r := rng32 (2 + ((x &&& 2147483647) % 2147483629))
  exact ⟨_, rfl, by omega, by omega⟩
theorem own_start (x : Int32) : ∃ b, (1 : Int32) + ((x &&& 2147483647) % 2147483638) = b ∧ 1 ≤ b.toInt ∧ b.toInt ≤ 2147483638 := by
  have m : (x &&& 2147483647).toInt = x.toInt % 2147483648 := c_mask x 2147483647 31 (by decide) (by decide)
  have i := (c_irem (x &&& 2147483647) 2147483638 2147483638 rfl).1 (by omega)
  have a := c_iadd 1 ((x &&& 2147483647) % 2147483638)
  have e1 : (1 : Int32).toInt = 1 := rfl
  have r := rng32 (1 + ((x &&& 2147483647) % 2147483638))
  exact ⟨_, rfl, by omega, by omega⟩
theorem own_o0 (x : Int32) : ∃ o, x &&& (3 : Int32) = o ∧ 0 ≤ o.toInt ∧ o.toInt ≤ 3 := by
  have m : (x &&& 3).toInt = x.toInt % 4 := c_mask x 3 2 (by decide) (by decide)
  exact ⟨_, rfl, by omega, by omega⟩
theorem own_om (x o0 : Int32) (h0 : 0 ≤ o0.toInt) (h3 : o0.toInt ≤ 3) : ∃ o, own_mn (o0 + (1 : Int32)) (x &&& (3 : Int32)) = o ∧ 0 ≤ o.toInt ∧ o.toInt ≤ 3 ∧ o.toInt ≤ o0.toInt + 1 := by
  have m : (x &&& 3).toInt = x.toInt % 4 := c_mask x 3 2 (by decide) (by decide)
  have s : (o0 + 1).toInt = o0.toInt + 1 := own_sumI (c := 1) h0 (by omega)
  obtain ⟨q1, q2, q3⟩ := own_mnI (o0 + 1) (x &&& 3)
  refine ⟨_, rfl, ?_, by omega, by omega⟩
  rcases q3 with q | q <;> rw [q] <;> omega
theorem own_e1 {b o : Int32} (h1 : 2 ≤ b.toInt) (h2 : b.toInt ≤ 2147483630) (h0 : 0 ≤ o.toInt) (h3 : o.toInt ≤ 3) : ∃ e, b + o = e ∧ e.toInt = b.toInt + o.toInt := by
  have a := c_iadd b o
  have r := rng32 (b + o)
  exact ⟨_, rfl, by omega⟩
theorem own_ls0 {a b : Int32} : own_ls 0 a b = b := if_pos rfl
theorem own_lsS {k : Nat} {a b : Int32} (h : k ≠ 0) : own_ls k a b = own_mn a b := if_neg h
def own_e (a b c d : Int32) : Nat → Int32
  | 0 => a
  | 1 => b
  | 2 => c
  | _ => d
theorem own_mn_nn {x y : Int32} (hx : 0 ≤ x.toInt) (hy : 0 ≤ y.toInt) : 0 ≤ (own_mn x y).toInt := by
  rcases (own_mnI x y).2.2 with q | q <;> rw [q] <;> assumption
theorem own_mn_lx {x y : Int32} {B : Int} (hx : x.toInt ≤ B) : (own_mn x y).toInt ≤ B := Int.le_trans (own_mnI x y).1 hx
theorem own_mn_ly (x y : Int32) : ¬ y < own_mn x y := fun q => absurd (own_ltI.mp q) (by have := (own_mnI x y).2.1; omega)
theorem own_irr (x : Int32) : ¬ x < x := fun q => absurd (own_ltI.mp q) (by omega)
theorem own_nn0 {x : Int32} (h : 0 ≤ x.toInt) : ¬ x < 0 := fun q => absurd (own_ltI.mp q) (by have : (0 : Int32).toInt = 0 := rfl; omega)
theorem own_lmn {d x y : Int32} (h1 : d < x) (h2 : d < y) : d < own_mn x y := by
  rcases (own_mnI x y).2.2 with q | q <;> rw [q] <;> assumption
theorem own_dd {ls q : Int32} (h0 : 0 ≤ ls.toInt) (h1 : ls.toInt ≤ 2147483640) : ¬ ls + (q &&& (7 : Int32)) < ls := by
  have m : (q &&& 7).toInt = q.toInt % 8 := c_mask q 7 3 (by decide) (by decide)
  have a := c_iadd ls (q &&& 7)
  have r := rng32 (ls + (q &&& 7))
  rw [own_ltI]; omega
theorem own_st {st : Int32} {k : Nat} (h1 : 1 ≤ st.toInt) (h2 : st.toInt ≤ 2147483638) (hk : k < 4) : ¬ st + Int32.ofNat k = 0 := fun q => by
  have := congrArg Int32.toInt q
  rw [own_sumI (by omega) (by omega)] at this
  have e : (0 : Int32).toInt = 0 := rfl
  omega
theorem own_ne1 {x : Int32} (h : 2 ≤ x.toInt) : ¬ x = 1 := fun q => by
  have := congrArg Int32.toInt q
  have e : (1 : Int32).toInt = 1 := rfl
  omega
theorem own_mx {e : Nat → Int32} {B : Int} (hB : B ≤ 2147483640) (h0 : (e 0).toInt ≤ B) (h1 : (e 1).toInt ≤ B) (h2 : (e 2).toInt ≤ B) (h3 : (e 3).toInt ≤ B) : ∀ j, j < 4 → e j < (2147483647 : Int32) := by
  intro j hj
  have m : (2147483647 : Int32).toInt = 2147483647 := rfl
  rw [own_ltI, m]
  rcases (show j = 0 ∨ j = 1 ∨ j = 2 ∨ j = 3 by omega) with rfl | rfl | rfl | rfl <;> omega
theorem own_eqr {Z : State} {args : Array Value} {X F : Term} {idx : List Nat} {y : Addr} (hF : F.eval args Z none idx Z = some (.ref y)) (h : (Cond.eq X F).value args Z none Z idx = some true) : X.eval args Z none idx Z = some (.ref y) := by
  obtain ⟨x, y', e1, e2, k1, k2⟩ := cmp_v (Or.inl h)
  cases hF.symm.trans e2
  have h' := h
  simp [Cond.value, e1, hF] at h
  cases x <;> simp_all
theorem own_len {Z : State} {args : Array Value} {t : Term} {x : Addr} {c : Cell} {ty : FieldType} {n : Int32} (et : t.eval args Z none [] Z = some (.ref x)) (A : Arr Z Z.heap x c ty) (h : (Term.length t).eval args Z none [] Z = some (.int n)) : c.slots.size < 2 ^ 31 ∧ c.slots.size.toInt32 = n := by
  have ha := A.fin (Vm.Alike.refl _)
  have q := Jvm.Free.SBG.length_lt et ha h
  refine ⟨q, ?_⟩
  have := (len_f et ha q).symm.trans h
  exact Value.int.inj (Option.some.inj this)
theorem own_kinds {Z : State} {args : Array Value} {t : Term} {kd ek : Addr} {c : Cell} {ty : FieldType} (et : t.eval args Z none [] Z = some (.ref kd)) (A : Arr Z Z.heap kd c ty) (hl : (Term.length t).eval args Z none [] Z = some (.int 6)) (h1 : (Term.elem t (Term.int 1)).eval args Z none [] Z = some (.ref ek)) :
    ∃ fd : Int32 → Value, (Arr Z Z.heap kd c ty ∧ c.slots.size = (6 : Int32).toNatClampNeg ∧ ¬ (6 : Int32) < 0 ∧ ∀ j : Int32, ¬ j < 0 → j < 6 → c.slots[j.toNatClampNeg]? = some (fd j)) ∧ fd 1 = .ref ek := by
  obtain ⟨q, e⟩ := own_len et A hl
  have hs : c.slots.size = 6 := by
    have := congrArg Int32.toInt e
    rw [len_toInt q] at this
    have e6 : (6 : Int32).toInt = 6 := rfl
    omega
  refine ⟨fun j => (c.slots[j.toNatClampNeg]?).getD .null, ⟨A, hs, by decide, fun j h1 h2 => ?_⟩, ?_⟩
  · have hj : j.toNatClampNeg < c.slots.size := by
      rw [hs]
      rw [Int32.lt_iff_toInt_lt, nat_of h1] at h2
      have e6 : (6 : Int32).toInt = 6 := rfl
      omega
    show _ = some ((c.slots[j.toNatClampNeg]?).getD .null)
    rw [Array.getElem?_eq_getElem hj]; rfl
  · have := (elem_f et (Term.int_eval (1)) (A.fin (Vm.Alike.refl _)) (by decide)).symm.trans h1
    show (c.slots[(1 : Int32).toNatClampNeg]?).getD .null = _
    rw [this]; rfl

set_option maxRecDepth 65536 in
set_option maxHeartbeats 40000000 in
theorem rmMN (l : Launch) (Z : State) (a0 : Array Value) (hw : ∀ d ∈ tables_1, d.before a0 Z = true) (x y : Int32) (h : Heap) (n0 : Nat)  : Con l Z ⟨"java/lang/Math", "min", "(II)I"⟩ jdk_29_method_69_code 2 (some .int) ({ frames := 0, cells := 0, slots := 0, locals := 0 } : Room) #[.int x, .int y] h n0 (fun vr h' => vr = some (.int (own_mn x y)) ∧ h' = h) := by
  refine Con.of pnMN (fun m_ => efMN m_ x y) (fun E K => ?_)
  refine K.iloadN dMN_0 rfl ?_
  refine K.iloadN dMN_1 rfl ?_
  refine K.ic_gt dMN_2 (fun hc1 => ?_) (fun hc1 => ?_)
  · refine K.iloadN dMN_9 rfl ?_
    exact K.ireturn dMN_10 (Or.inl rfl) rfl (by decide) (by decide) ⟨by rw [own_mn1 hc1], rfl⟩
  · refine K.iloadN dMN_5 rfl ?_
    refine K.goto dMN_6 ?_
    exact K.ireturn dMN_10 (Or.inl rfl) rfl (by decide) (by decide) ⟨by rw [own_mn0 hc1], rfl⟩
set_option maxRecDepth 65536 in
set_option maxHeartbeats 40000000 in
theorem rmRN (l : Launch) (Z : State) (a0 : Array Value) (hw : ∀ d ∈ tables_1, d.before a0 Z = true) (a : Addr) (h : Heap) (n0 : Nat)  : Con l Z ⟨"java/util/Objects", "requireNonNull", "(Ljava/lang/Object;)Ljava/lang/Object;"⟩ jdk_31_method_10_code 1 (some (.object "java/lang/Object")) ({ frames := 0, cells := 0, slots := 0, locals := 0 } : Room) #[.ref a] h n0 (fun vr h' => vr = some (.ref a) ∧ h' = h) := by
  refine Con.of pnRN (fun m_ => efRN m_ a) (fun E K => ?_)
  refine K.aloadN dRN_0 rfl rfl ?_
  refine K.ifnonnull_ref dRN_1 ?_
  refine K.aloadN dRN_12 rfl rfl ?_
  exact K.areturn dRN_13 rfl rfl rfl (by decide) (by decide) ⟨rfl, rfl⟩
set_option maxRecDepth 65536 in
set_option maxHeartbeats 40000000 in
theorem rmGN (l : Launch) (Z : State) (a0 : Array Value) (hw : ∀ d ∈ tables_1, d.before a0 Z = true) (a : Addr) (v : Int32) (h : Heap) (n0 : Nat) (P0 : Fld Z h a "com/example/horatius/horatius/core/PageSummary" "nodes" "I" (.int v)) : Con l Z ⟨"com/example/horatius/horatius/core/PageSummary", "nodes", "()I"⟩ prog_23_method_4_code 1 (some .int) ({ frames := 0, cells := 0, slots := 0, locals := 0 } : Room) #[.ref a] h n0 (fun vr h' => vr = some (.int v) ∧ h' = h) := by
  refine Con.of pnGN (fun m_ => efGN m_ a) (fun E K => ?_)
  refine K.aloadN dGN_0 rfl rfl ?_
  refine K.getF dGN_1 (wd20 hw) P0 ?_
  exact K.ireturn dGN_4 (Or.inl rfl) rfl (by decide) (by decide) ⟨rfl, rfl⟩
set_option maxRecDepth 65536 in
set_option maxHeartbeats 40000000 in
theorem rmGD (l : Launch) (Z : State) (a0 : Array Value) (hw : ∀ d ∈ tables_1, d.before a0 Z = true) (a : Addr) (v : Int32) (h : Heap) (n0 : Nat) (P0 : Fld Z h a "com/example/horatius/horatius/core/PageSummary" "lastDepth" "I" (.int v)) : Con l Z ⟨"com/example/horatius/horatius/core/PageSummary", "lastDepth", "()I"⟩ prog_23_method_7_code 1 (some .int) ({ frames := 0, cells := 0, slots := 0, locals := 0 } : Room) #[.ref a] h n0 (fun vr h' => vr = some (.int v) ∧ h' = h) := by
  refine Con.of pnGD (fun m_ => efGD m_ a) (fun E K => ?_)
  refine K.aloadN dGD_0 rfl rfl ?_
  refine K.getF dGD_1 (wd32 hw) P0 ?_
  exact K.ireturn dGD_4 (Or.inl rfl) rfl (by decide) (by decide) ⟨rfl, rfl⟩
set_option maxRecDepth 65536 in
set_option maxHeartbeats 40000000 in
theorem rmGK (l : Launch) (Z : State) (a0 : Array Value) (hw : ∀ d ∈ tables_1, d.before a0 Z = true) (a v : Addr) (h : Heap) (n0 : Nat) (P0 : Fld Z h a "com/example/horatius/horatius/core/PageSummary" "lastKind" "Lcom/example/horatius/horatius/core/NodeKind;" (.ref v)) : Con l Z ⟨"com/example/horatius/horatius/core/PageSummary", "lastKind", "()Lcom/example/horatius/horatius/core/NodeKind;"⟩ prog_23_method_6_code 1 (some (.object "com/example/horatius/horatius/core/NodeKind")) ({ frames := 0, cells := 0, slots := 0, locals := 0 } : Room) #[.ref a] h n0 (fun vr h' => vr = some (.ref v) ∧ h' = h) := by
  refine Con.of pnGK (fun m_ => efGK m_ a) (fun E K => ?_)
  refine K.aloadN dGK_0 rfl rfl ?_
  refine K.getF dGK_1 (wd30 hw) P0 ?_
  exact K.areturn dGK_4 rfl rfl rfl (by decide) (by decide) ⟨rfl, rfl⟩
set_option maxRecDepth 65536 in
set_option maxHeartbeats 40000000 in
theorem rmON (l : Launch) (Z : State) (a0 : Array Value) (hw : ∀ d ∈ tables_1, d.before a0 Z = true) (a : Addr) (v : Int32) (h : Heap) (n0 : Nat) (P0 : Fld Z h a "java/lang/Enum" "ordinal" "I" (.int v)) : Con l Z ⟨"java/lang/Enum", "ordinal", "()I"⟩ jdk_37_method_2_code 1 (some .int) ({ frames := 0, cells := 0, slots := 0, locals := 0 } : Room) #[.ref a] h n0 (fun vr h' => vr = some (.int v) ∧ h' = h) := by
  refine Con.of pnON (fun m_ => efON m_ a) (fun E K => ?_)
  refine K.aloadN dON_0 rfl rfl ?_
  refine K.getF dON_1 (wd131 hw) P0 ?_
  exact K.ireturn dON_4 (Or.inl rfl) rfl (by decide) (by decide) ⟨rfl, rfl⟩
set_option maxRecDepth 65536 in
set_option maxHeartbeats 40000000 in
theorem rmCN (l : Launch) (Z : State) (a0 : Array Value) (hw : ∀ d ∈ tables_1, d.before a0 Z = true) (a : Addr) (h : Heap) (n0 : Nat) (P0 : Fld Z h a "com/example/horatius/horatius/core/OutlinePage" "nameCount" "I" (.int (1 : Int32))) : Con l Z ⟨"com/example/horatius/horatius/core/OutlinePage", "checkedName", "(I)I"⟩ prog_19_method_25_code 2 (some .int) ({ frames := 0, cells := 0, slots := 0, locals := 0 } : Room) #[.ref a, .int (0 : Int32)] h n0 (fun vr h' => vr = some (.int (0 : Int32)) ∧ h' = h) := by
  refine Con.of pnCN (fun m_ => efCN m_ a (0 : Int32)) (fun E K => ?_)
  refine K.iloadN dCN_0 rfl ?_
  refine K.if_lt dCN_1 (fun u => absurd u (by decide)) (fun _ => ?_)
  refine K.iloadN dCN_4 rfl ?_
  refine K.aloadN dCN_5 rfl rfl ?_
  refine K.getF dCN_6 (wd72 hw) P0 ?_
  refine K.ic_lt dCN_9 (fun _ => ?_) (fun u => absurd (by decide) u)
  refine K.iloadN dCN_35 rfl ?_
  exact K.ireturn dCN_36 (Or.inl rfl) rfl (by decide) (by decide) ⟨rfl, rfl⟩
set_option maxRecDepth 65536 in
set_option maxHeartbeats 40000000 in
theorem rmCS (l : Launch) (Z : State) (a0 : Array Value) (hw : ∀ d ∈ tables_1, d.before a0 Z = true) (a : Addr) (v x : Int32) (h : Heap) (n0 : Nat) (P0 : Fld Z h a "com/example/horatius/horatius/core/OutlinePage" "start" "I" (.int v)) (P1 : Fld Z h a "com/example/horatius/horatius/core/OutlinePage" "size" "I" (.int x)) (P2 : ¬ v + x = 0) : Con l Z ⟨"com/example/horatius/horatius/core/OutlinePage", "checkStarted", "()V"⟩ prog_19_method_26_code 1 none ({ frames := 0, cells := 0, slots := 0, locals := 0 } : Room) #[.ref a] h n0 (fun vr h' => vr = none ∧ h' = h) := by
  refine Con.of pnCS (fun m_ => efCS m_ a) (fun E K => ?_)
  refine K.aloadN dCS_0 rfl rfl ?_
  refine K.getF dCS_1 (wd68 hw) P0 ?_
  refine K.aloadN dCS_4 rfl rfl ?_
  refine K.getF dCS_5 (wd120 hw) P1 ?_
  refine K.iadd dCS_8 ?_
  refine K.if_ne dCS_9 (fun u => absurd u P2) (fun _ => ?_)
  exact K.ret dCS_22 (by decide) (by decide) ⟨rfl, rfl⟩
set_option maxRecDepth 65536 in
set_option maxHeartbeats 40000000 in
theorem rmSI (l : Launch) (Z : State) (a0 : Array Value) (hw : ∀ d ∈ tables_1, d.before a0 Z = true) (a b ek : Addr) (nd ld lp : Int32) (h : Heap) (n0 : Nat) (PE : Exa Z h a "com/example/horatius/horatius/core/PageSummary") (ga_ : n0 ≤ a) (N0 : Fld Z h a "com/example/horatius/horatius/core/PageSummary" "nodes" "I" (.int (0 : Int32))) (N1 : Fld Z h a "com/example/horatius/horatius/core/PageSummary" "leastDepth" "I" (.int (0 : Int32))) (N2 : Fld Z h a "com/example/horatius/horatius/core/PageSummary" "lastKind" "Lcom/example/horatius/horatius/core/NodeKind;" .null) (N3 : Fld Z h a "com/example/horatius/horatius/core/PageSummary" "lastDepth" "I" (.int (0 : Int32))) (N4 : Fld Z h a "com/example/horatius/horatius/core/PageSummary" "topElements" "I" (.int (0 : Int32))) (N5 : Fld Z h a "com/example/horatius/horatius/core/PageSummary" "typedAttributes" "I" (.int (0 : Int32))) (N6 : Fld Z h a "com/example/horatius/horatius/core/PageSummary" "asides" "[I" .null) (N7 : Fld Z h a "com/example/horatius/horatius/core/PageSummary" "asideCount" "I" (.int (0 : Int32))) (PA : Ia Z h b .int (0 : Int32) (fun _ => .int 0)) (PX : Exa Z h b "[I") (PK : Exa Z h ek "com/example/horatius/horatius/core/NodeKind") (hba : b ≠ a) (h1 : ¬ nd < 1) (h2 : ¬ ld < 0) (h3 : ¬ lp < ld) : Con l Z ⟨"com/example/horatius/horatius/core/PageSummary", "<init>", "(IILcom/example/horatius/horatius/core/NodeKind;III[I)V"⟩ prog_23_method_2_code 9 none ({ frames := 1, cells := 1, slots := 0, locals := 15 } : Room) #[.ref a, .int nd, .int ld, .ref ek, .int lp, .int (0 : Int32), .int (0 : Int32), .ref b] h n0 (fun vr h' => vr = none ∧ (∃ c, h.size ≤ c ∧ n0 ≤ c ∧ Keep h h' [a] ∧ Ga Z h' a c nd ld (.ref ek) lp ∧ Ia Z h' c .int (0 : Int32) (fun _ => .int 0))) := by
  refine Con.of pnSI (fun m_ => efSI m_ a nd ld ek lp (0 : Int32) (0 : Int32) b) (fun E K => ?_)
  have K1 : Keep h h [a] := Keep.refl _ _
  refine K.aloadN dSI_0 rfl rfl ?_
  refine K.initO 0 dSI_1 (wd17 hw) (wd18 hw) (wd19 hw) rfl (by decide) (Nat.le_of_eq rfl) (by decide) ?_
  refine K.iloadN dSI_4 rfl ?_
  refine K.iconst (1 : Int32) dSI_5 rfl ?_
  refine K.ic_lt dSI_6 (fun u => absurd u h1) (fun _ => ?_)
  refine K.iloadN dSI_9 rfl ?_
  refine K.if_lt dSI_10 (fun u => absurd u h2) (fun _ => ?_)
  refine K.iload dSI_13 rfl ?_
  refine K.iloadN dSI_15 rfl ?_
  refine K.ic_lt dSI_16 (fun u => absurd u h3) (fun _ => ?_)
  refine K.iload dSI_19 rfl ?_
  refine K.if_lt dSI_21 (fun u => absurd u (by decide)) (fun _ => ?_)
  refine K.iload dSI_24 rfl ?_
  refine K.if_ge dSI_26 (fun u => absurd u (by decide)) (fun _ => ?_)
  refine K.iconst (0 : Int32) dSI_39 rfl ?_
  refine K.istore #[.val (.ref a), .val (.int nd), .val (.int ld), .val (.ref ek), .val (.int lp), .val (.int (0 : Int32)), .val (.int (0 : Int32)), .val (.ref b), .val (.int (0 : Int32))] dSI_40 rfl ?_
  refine K.iload dSI_42 rfl ?_
  refine K.aload dSI_44 rfl rfl ?_
  refine K.arraylength dSI_46 PA ?_
  refine K.ic_ge dSI_47 (fun u => absurd u (by decide)) (fun _ => ?_)
  refine K.aloadN dSI_103 rfl rfl ?_
  refine K.iloadN dSI_104 rfl ?_
  refine K.putF dSI_105 (wd20 hw) N0 PE (Or.inl (wd21 hw)) (wd8 hw) (ty := .int) (by decide) rfl rfl ga_ (fun h2 W3 => ?_)
  have K4 := K1.wr W3 (Or.inl (List.mem_of_getElem? (i := 0) rfl))
  have E5 := PE.wr W3
  have F6 := N0.same W3
  have F7 := N1.other W3 (Or.inr (RoadKit.slot_ne (Or.inl (wd23 hw)) (Or.inl (wd21 hw)) (by decide) (t := .int) (t' := .int) (by decide) (by decide)))
  have F8 := N2.other W3 (Or.inr (RoadKit.slot_ne (Or.inl (wd31 hw)) (Or.inl (wd21 hw)) (by decide) (t := (.object "com/example/horatius/horatius/core/NodeKind")) (t' := .int) (by decide) (by decide)))
  have F9 := N3.other W3 (Or.inr (RoadKit.slot_ne (Or.inl (wd33 hw)) (Or.inl (wd21 hw)) (by decide) (t := .int) (t' := .int) (by decide) (by decide)))
  have F10 := N4.other W3 (Or.inr (RoadKit.slot_ne (Or.inl (wd35 hw)) (Or.inl (wd21 hw)) (by decide) (t := .int) (t' := .int) (by decide) (by decide)))
  have F11 := N5.other W3 (Or.inr (RoadKit.slot_ne (Or.inl (wd37 hw)) (Or.inl (wd21 hw)) (by decide) (t := .int) (t' := .int) (by decide) (by decide)))
  have F12 := N6.other W3 (Or.inr (RoadKit.slot_ne (Or.inl (wd48 hw)) (Or.inl (wd21 hw)) (by decide) (t := (.array .int)) (t' := .int) (by decide) (by decide)))
  have F13 := N7.other W3 (Or.inr (RoadKit.slot_ne (Or.inl (wd50 hw)) (Or.inl (wd21 hw)) (by decide) (t := .int) (t' := .int) (by decide) (by decide)))
  have I14 := PA.other W3 hba
  have E15 := PX.wr W3
  have E16 := PK.wr W3
  refine K.aloadN dSI_108 rfl rfl ?_
  refine K.iloadN dSI_109 rfl ?_
  refine K.putF dSI_110 (wd22 hw) F7 E5 (Or.inl (wd23 hw)) (wd8 hw) (ty := .int) (by decide) rfl rfl ga_ (fun h17 W18 => ?_)
  have K19 := K4.wr W18 (Or.inl (List.mem_of_getElem? (i := 0) rfl))
  have E20 := E5.wr W18
  have F21 := F6.other W18 (Or.inr (RoadKit.slot_ne (Or.inl (wd21 hw)) (Or.inl (wd23 hw)) (by decide) (t := .int) (t' := .int) (by decide) (by decide)))
  have F22 := F7.same W18
  have F23 := F8.other W18 (Or.inr (RoadKit.slot_ne (Or.inl (wd31 hw)) (Or.inl (wd23 hw)) (by decide) (t := (.object "com/example/horatius/horatius/core/NodeKind")) (t' := .int) (by decide) (by decide)))
  have F24 := F9.other W18 (Or.inr (RoadKit.slot_ne (Or.inl (wd33 hw)) (Or.inl (wd23 hw)) (by decide) (t := .int) (t' := .int) (by decide) (by decide)))
  have F25 := F10.other W18 (Or.inr (RoadKit.slot_ne (Or.inl (wd35 hw)) (Or.inl (wd23 hw)) (by decide) (t := .int) (t' := .int) (by decide) (by decide)))
  have F26 := F11.other W18 (Or.inr (RoadKit.slot_ne (Or.inl (wd37 hw)) (Or.inl (wd23 hw)) (by decide) (t := .int) (t' := .int) (by decide) (by decide)))
  have F27 := F12.other W18 (Or.inr (RoadKit.slot_ne (Or.inl (wd48 hw)) (Or.inl (wd23 hw)) (by decide) (t := (.array .int)) (t' := .int) (by decide) (by decide)))
  have F28 := F13.other W18 (Or.inr (RoadKit.slot_ne (Or.inl (wd50 hw)) (Or.inl (wd23 hw)) (by decide) (t := .int) (t' := .int) (by decide) (by decide)))
  have I29 := I14.other W18 hba
  have E30 := E15.wr W18
  have E31 := E16.wr W18
  refine K.aloadN dSI_113 rfl rfl ?_
  refine K.aloadN dSI_114 rfl rfl ?_
  refine K.callS [.ref ek] [.ref a] 1 0 0 dSI_115 (wd24 hw) (wd25 hw) (wd26 hw) (wd27 hw) (by decide) (rmRN l Z a0 hw ek h17 n0 ) rfl (lenOf pd_1 rfl) rfl (Nat.le_of_eq rfl) (by decide) (by decide) rfl rfl (by decide) (by decide) (goP ?_)
  refine K.castY dSI_118 (wd28 hw) (Ins.self E31) ?_
  refine K.putF dSI_121 (wd30 hw) F23 E20 (Or.inl (wd31 hw)) (wd8 hw) (ty := (.object "com/example/horatius/horatius/core/NodeKind")) (by decide) rfl rfl ga_ (fun h32 W33 => ?_)
  have K34 := K19.wr W33 (Or.inl (List.mem_of_getElem? (i := 0) rfl))
  have E35 := E20.wr W33
  have F36 := F21.other W33 (Or.inr (RoadKit.slot_ne (Or.inl (wd21 hw)) (Or.inl (wd31 hw)) (by decide) (t := .int) (t' := (.object "com/example/horatius/horatius/core/NodeKind")) (by decide) (by decide)))
  have F37 := F22.other W33 (Or.inr (RoadKit.slot_ne (Or.inl (wd23 hw)) (Or.inl (wd31 hw)) (by decide) (t := .int) (t' := (.object "com/example/horatius/horatius/core/NodeKind")) (by decide) (by decide)))
  have F38 := F23.same W33
  have F39 := F24.other W33 (Or.inr (RoadKit.slot_ne (Or.inl (wd33 hw)) (Or.inl (wd31 hw)) (by decide) (t := .int) (t' := (.object "com/example/horatius/horatius/core/NodeKind")) (by decide) (by decide)))
  have F40 := F25.other W33 (Or.inr (RoadKit.slot_ne (Or.inl (wd35 hw)) (Or.inl (wd31 hw)) (by decide) (t := .int) (t' := (.object "com/example/horatius/horatius/core/NodeKind")) (by decide) (by decide)))
  have F41 := F26.other W33 (Or.inr (RoadKit.slot_ne (Or.inl (wd37 hw)) (Or.inl (wd31 hw)) (by decide) (t := .int) (t' := (.object "com/example/horatius/horatius/core/NodeKind")) (by decide) (by decide)))
  have F42 := F27.other W33 (Or.inr (RoadKit.slot_ne (Or.inl (wd48 hw)) (Or.inl (wd31 hw)) (by decide) (t := (.array .int)) (t' := (.object "com/example/horatius/horatius/core/NodeKind")) (by decide) (by decide)))
  have F43 := F28.other W33 (Or.inr (RoadKit.slot_ne (Or.inl (wd50 hw)) (Or.inl (wd31 hw)) (by decide) (t := .int) (t' := (.object "com/example/horatius/horatius/core/NodeKind")) (by decide) (by decide)))
  have I44 := I29.other W33 hba
  have E45 := E30.wr W33
  have E46 := E31.wr W33
  refine K.aloadN dSI_124 rfl rfl ?_
  refine K.iload dSI_125 rfl ?_
  refine K.putF dSI_127 (wd32 hw) F39 E35 (Or.inl (wd33 hw)) (wd8 hw) (ty := .int) (by decide) rfl rfl ga_ (fun h47 W48 => ?_)
  have K49 := K34.wr W48 (Or.inl (List.mem_of_getElem? (i := 0) rfl))
  have E50 := E35.wr W48
  have F51 := F36.other W48 (Or.inr (RoadKit.slot_ne (Or.inl (wd21 hw)) (Or.inl (wd33 hw)) (by decide) (t := .int) (t' := .int) (by decide) (by decide)))
  have F52 := F37.other W48 (Or.inr (RoadKit.slot_ne (Or.inl (wd23 hw)) (Or.inl (wd33 hw)) (by decide) (t := .int) (t' := .int) (by decide) (by decide)))
  have F53 := F38.other W48 (Or.inr (RoadKit.slot_ne (Or.inl (wd31 hw)) (Or.inl (wd33 hw)) (by decide) (t := (.object "com/example/horatius/horatius/core/NodeKind")) (t' := .int) (by decide) (by decide)))
  have F54 := F39.same W48
  have F55 := F40.other W48 (Or.inr (RoadKit.slot_ne (Or.inl (wd35 hw)) (Or.inl (wd33 hw)) (by decide) (t := .int) (t' := .int) (by decide) (by decide)))
  have F56 := F41.other W48 (Or.inr (RoadKit.slot_ne (Or.inl (wd37 hw)) (Or.inl (wd33 hw)) (by decide) (t := .int) (t' := .int) (by decide) (by decide)))
  have F57 := F42.other W48 (Or.inr (RoadKit.slot_ne (Or.inl (wd48 hw)) (Or.inl (wd33 hw)) (by decide) (t := (.array .int)) (t' := .int) (by decide) (by decide)))
  have F58 := F43.other W48 (Or.inr (RoadKit.slot_ne (Or.inl (wd50 hw)) (Or.inl (wd33 hw)) (by decide) (t := .int) (t' := .int) (by decide) (by decide)))
  have I59 := I44.other W48 hba
  have E60 := E45.wr W48
  have E61 := E46.wr W48
  refine K.aloadN dSI_130 rfl rfl ?_
  refine K.iload dSI_131 rfl ?_
  refine K.putF dSI_133 (wd34 hw) F55 E50 (Or.inl (wd35 hw)) (wd8 hw) (ty := .int) (by decide) rfl rfl ga_ (fun h62 W63 => ?_)
  have K64 := K49.wr W63 (Or.inl (List.mem_of_getElem? (i := 0) rfl))
  have E65 := E50.wr W63
  have F66 := F51.other W63 (Or.inr (RoadKit.slot_ne (Or.inl (wd21 hw)) (Or.inl (wd35 hw)) (by decide) (t := .int) (t' := .int) (by decide) (by decide)))
  have F67 := F52.other W63 (Or.inr (RoadKit.slot_ne (Or.inl (wd23 hw)) (Or.inl (wd35 hw)) (by decide) (t := .int) (t' := .int) (by decide) (by decide)))
  have F68 := F53.other W63 (Or.inr (RoadKit.slot_ne (Or.inl (wd31 hw)) (Or.inl (wd35 hw)) (by decide) (t := (.object "com/example/horatius/horatius/core/NodeKind")) (t' := .int) (by decide) (by decide)))
  have F69 := F54.other W63 (Or.inr (RoadKit.slot_ne (Or.inl (wd33 hw)) (Or.inl (wd35 hw)) (by decide) (t := .int) (t' := .int) (by decide) (by decide)))
  have F70 := F55.same W63
  have F71 := F56.other W63 (Or.inr (RoadKit.slot_ne (Or.inl (wd37 hw)) (Or.inl (wd35 hw)) (by decide) (t := .int) (t' := .int) (by decide) (by decide)))
  have F72 := F57.other W63 (Or.inr (RoadKit.slot_ne (Or.inl (wd48 hw)) (Or.inl (wd35 hw)) (by decide) (t := (.array .int)) (t' := .int) (by decide) (by decide)))
  have F73 := F58.other W63 (Or.inr (RoadKit.slot_ne (Or.inl (wd50 hw)) (Or.inl (wd35 hw)) (by decide) (t := .int) (t' := .int) (by decide) (by decide)))
  have I74 := I59.other W63 hba
  have E75 := E60.wr W63
  have E76 := E61.wr W63
  refine K.aloadN dSI_136 rfl rfl ?_
  refine K.iload dSI_137 rfl ?_
  refine K.putF dSI_139 (wd36 hw) F71 E65 (Or.inl (wd37 hw)) (wd8 hw) (ty := .int) (by decide) rfl rfl ga_ (fun h77 W78 => ?_)
  have K79 := K64.wr W78 (Or.inl (List.mem_of_getElem? (i := 0) rfl))
  have E80 := E65.wr W78
  have F81 := F66.other W78 (Or.inr (RoadKit.slot_ne (Or.inl (wd21 hw)) (Or.inl (wd37 hw)) (by decide) (t := .int) (t' := .int) (by decide) (by decide)))
  have F82 := F67.other W78 (Or.inr (RoadKit.slot_ne (Or.inl (wd23 hw)) (Or.inl (wd37 hw)) (by decide) (t := .int) (t' := .int) (by decide) (by decide)))
  have F83 := F68.other W78 (Or.inr (RoadKit.slot_ne (Or.inl (wd31 hw)) (Or.inl (wd37 hw)) (by decide) (t := (.object "com/example/horatius/horatius/core/NodeKind")) (t' := .int) (by decide) (by decide)))
  have F84 := F69.other W78 (Or.inr (RoadKit.slot_ne (Or.inl (wd33 hw)) (Or.inl (wd37 hw)) (by decide) (t := .int) (t' := .int) (by decide) (by decide)))
  have F85 := F70.other W78 (Or.inr (RoadKit.slot_ne (Or.inl (wd35 hw)) (Or.inl (wd37 hw)) (by decide) (t := .int) (t' := .int) (by decide) (by decide)))
  have F86 := F71.same W78
  have F87 := F72.other W78 (Or.inr (RoadKit.slot_ne (Or.inl (wd48 hw)) (Or.inl (wd37 hw)) (by decide) (t := (.array .int)) (t' := .int) (by decide) (by decide)))
  have F88 := F73.other W78 (Or.inr (RoadKit.slot_ne (Or.inl (wd50 hw)) (Or.inl (wd37 hw)) (by decide) (t := .int) (t' := .int) (by decide) (by decide)))
  have I89 := I74.other W78 hba
  have E90 := E75.wr W78
  have E91 := E76.wr W78
  refine K.aloadN dSI_142 rfl rfl ?_
  refine K.aload dSI_143 rfl rfl ?_
  refine K.cloneI 1 0 1 0 dSI_145 (wd38 hw) (wd39 hw) (wd43 hw) (wd41 hw) (wd42 hw) (wd44 hw) I89 zero_int E90 rfl (by decide) (Nat.le_of_eq rfl) (by decide) (by decide) rfl rfl (by decide) (by decide) (fun h93 c92 ha94 g95 X96 A97 E98 => ?_)
  have ks_c92 := ha_ge K79.1 ha94
  have lt_a_c92 : a < c92 := by rw [ha94]; exact E80.lt
  have lt_b_c92 : b < c92 := by rw [ha94]; exact I89.lt
  have lt_ek_c92 : ek < c92 := by rw [ha94]; exact E91.lt
  have K99 := K79.ext X96
  have E100 := E80.ext X96
  have F101 := F81.ext X96
  have F102 := F82.ext X96
  have F103 := F83.ext X96
  have F104 := F84.ext X96
  have F105 := F85.ext X96
  have F106 := F86.ext X96
  have F107 := F87.ext X96
  have F108 := F88.ext X96
  have I109 := I89.ext X96
  have E110 := E90.ext X96
  have E111 := E91.ext X96
  refine K.castY dSI_148 (wd45 hw) (Ins.self E98) ?_
  refine K.putF dSI_151 (wd47 hw) F107 E100 (Or.inl (wd48 hw)) (wd8 hw) (ty := (.array .int)) (by decide) rfl rfl ga_ (fun h112 W113 => ?_)
  have K114 := K99.wr W113 (Or.inl (List.mem_of_getElem? (i := 0) rfl))
  have E115 := E100.wr W113
  have F116 := F101.other W113 (Or.inr (RoadKit.slot_ne (Or.inl (wd21 hw)) (Or.inl (wd48 hw)) (by decide) (t := .int) (t' := (.array .int)) (by decide) (by decide)))
  have F117 := F102.other W113 (Or.inr (RoadKit.slot_ne (Or.inl (wd23 hw)) (Or.inl (wd48 hw)) (by decide) (t := .int) (t' := (.array .int)) (by decide) (by decide)))
  have F118 := F103.other W113 (Or.inr (RoadKit.slot_ne (Or.inl (wd31 hw)) (Or.inl (wd48 hw)) (by decide) (t := (.object "com/example/horatius/horatius/core/NodeKind")) (t' := (.array .int)) (by decide) (by decide)))
  have F119 := F104.other W113 (Or.inr (RoadKit.slot_ne (Or.inl (wd33 hw)) (Or.inl (wd48 hw)) (by decide) (t := .int) (t' := (.array .int)) (by decide) (by decide)))
  have F120 := F105.other W113 (Or.inr (RoadKit.slot_ne (Or.inl (wd35 hw)) (Or.inl (wd48 hw)) (by decide) (t := .int) (t' := (.array .int)) (by decide) (by decide)))
  have F121 := F106.other W113 (Or.inr (RoadKit.slot_ne (Or.inl (wd37 hw)) (Or.inl (wd48 hw)) (by decide) (t := .int) (t' := (.array .int)) (by decide) (by decide)))
  have F122 := F107.same W113
  have F123 := F108.other W113 (Or.inr (RoadKit.slot_ne (Or.inl (wd50 hw)) (Or.inl (wd48 hw)) (by decide) (t := .int) (t' := (.array .int)) (by decide) (by decide)))
  have I124 := I109.other W113 hba
  have E125 := E110.wr W113
  have E126 := E111.wr W113
  have I127 := A97.other W113 (Nat.ne_of_gt lt_a_c92)
  have E128 := E98.wr W113
  refine K.aloadN dSI_154 rfl rfl ?_
  refine K.aload dSI_155 rfl rfl ?_
  refine K.arraylength dSI_157 I124 ?_
  refine K.putF dSI_158 (wd49 hw) F123 E115 (Or.inl (wd50 hw)) (wd8 hw) (ty := .int) (by decide) rfl rfl ga_ (fun h129 W130 => ?_)
  have K131 := K114.wr W130 (Or.inl (List.mem_of_getElem? (i := 0) rfl))
  have E132 := E115.wr W130
  have F133 := F116.other W130 (Or.inr (RoadKit.slot_ne (Or.inl (wd21 hw)) (Or.inl (wd50 hw)) (by decide) (t := .int) (t' := .int) (by decide) (by decide)))
  have F134 := F117.other W130 (Or.inr (RoadKit.slot_ne (Or.inl (wd23 hw)) (Or.inl (wd50 hw)) (by decide) (t := .int) (t' := .int) (by decide) (by decide)))
  have F135 := F118.other W130 (Or.inr (RoadKit.slot_ne (Or.inl (wd31 hw)) (Or.inl (wd50 hw)) (by decide) (t := (.object "com/example/horatius/horatius/core/NodeKind")) (t' := .int) (by decide) (by decide)))
  have F136 := F119.other W130 (Or.inr (RoadKit.slot_ne (Or.inl (wd33 hw)) (Or.inl (wd50 hw)) (by decide) (t := .int) (t' := .int) (by decide) (by decide)))
  have F137 := F120.other W130 (Or.inr (RoadKit.slot_ne (Or.inl (wd35 hw)) (Or.inl (wd50 hw)) (by decide) (t := .int) (t' := .int) (by decide) (by decide)))
  have F138 := F121.other W130 (Or.inr (RoadKit.slot_ne (Or.inl (wd37 hw)) (Or.inl (wd50 hw)) (by decide) (t := .int) (t' := .int) (by decide) (by decide)))
  have F139 := F122.other W130 (Or.inr (RoadKit.slot_ne (Or.inl (wd48 hw)) (Or.inl (wd50 hw)) (by decide) (t := (.array .int)) (t' := .int) (by decide) (by decide)))
  have F140 := F123.same W130
  have I141 := I124.other W130 hba
  have E142 := E125.wr W130
  have E143 := E126.wr W130
  have I144 := I127.other W130 (Nat.ne_of_gt lt_a_c92)
  have E145 := E128.wr W130
  exact K.ret dSI_161 (by decide) (by decide) ⟨rfl, _, ks_c92, g95, K131, ⟨F133, F134, F135, F136, F137, F138, F139, F140⟩, I144⟩
set_option maxRecDepth 65536 in
set_option maxHeartbeats 40000000 in
theorem rmS0 (l : Launch) (Z : State) (a0 : Array Value) (hw : ∀ d ∈ tables_1, d.before a0 Z = true) (a : Addr) (h : Heap) (n0 : Nat) (PE : Exa Z h a "com/example/horatius/horatius/core/PageSummary") (ga_ : n0 ≤ a) (N0 : Fld Z h a "com/example/horatius/horatius/core/PageSummary" "nodes" "I" (.int (0 : Int32))) (N1 : Fld Z h a "com/example/horatius/horatius/core/PageSummary" "leastDepth" "I" (.int (0 : Int32))) (N2 : Fld Z h a "com/example/horatius/horatius/core/PageSummary" "lastKind" "Lcom/example/horatius/horatius/core/NodeKind;" .null) (N3 : Fld Z h a "com/example/horatius/horatius/core/PageSummary" "lastDepth" "I" (.int (0 : Int32))) (N4 : Fld Z h a "com/example/horatius/horatius/core/PageSummary" "topElements" "I" (.int (0 : Int32))) (N5 : Fld Z h a "com/example/horatius/horatius/core/PageSummary" "typedAttributes" "I" (.int (0 : Int32))) (N6 : Fld Z h a "com/example/horatius/horatius/core/PageSummary" "asides" "[I" .null) (N7 : Fld Z h a "com/example/horatius/horatius/core/PageSummary" "asideCount" "I" (.int (0 : Int32))) : Con l Z ⟨"com/example/horatius/horatius/core/PageSummary", "<init>", "()V"⟩ prog_23_method_1_code 1 none ({ frames := 1, cells := 1, slots := 0, locals := 12 } : Room) #[.ref a] h n0 (fun vr h' => vr = none ∧ (∃ c, h.size ≤ c ∧ n0 ≤ c ∧ Keep h h' [a] ∧ Ga Z h' a c (0 : Int32) (0 : Int32) .null (0 : Int32) ∧ Ia Z h' c .int (0 : Int32) (fun _ => .int 0))) := by
  refine Con.of pnS0 (fun m_ => efS0 m_ a) (fun E K => ?_)
  have K1 : Keep h h [a] := Keep.refl _ _
  refine K.aloadN dS0_0 rfl rfl ?_
  refine K.initO 0 dS0_1 (wd17 hw) (wd18 hw) (wd19 hw) rfl (by decide) (Nat.le_of_eq rfl) (by decide) ?_
  refine K.aloadN dS0_4 rfl rfl ?_
  refine K.iconst (0 : Int32) dS0_5 rfl ?_
  refine K.newP (ty := .int) (dv := .int 0) 0 1 0 dS0_6 (wd13 hw) rfl rfl (by decide) (by decide) (by decide) rfl rfl (by decide) (by decide) (fun h3 a2 ha4 g5 X6 A7 => ?_)
  have ks_a2 := ha_ge K1.1 ha4
  have lt_a_a2 : a < a2 := by rw [ha4]; exact PE.lt
  have K8 := K1.ext X6
  have E9 := PE.ext X6
  have F10 := N0.ext X6
  have F11 := N1.ext X6
  have F12 := N2.ext X6
  have F13 := N3.ext X6
  have F14 := N4.ext X6
  have F15 := N5.ext X6
  have F16 := N6.ext X6
  have F17 := N7.ext X6
  refine K.putF dS0_8 (wd47 hw) F16 E9 (Or.inl (wd48 hw)) (wd8 hw) (ty := (.array .int)) (by decide) rfl rfl ga_ (fun h18 W19 => ?_)
  have K20 := K8.wr W19 (Or.inl (List.mem_of_getElem? (i := 0) rfl))
  have E21 := E9.wr W19
  have F22 := F10.other W19 (Or.inr (RoadKit.slot_ne (Or.inl (wd21 hw)) (Or.inl (wd48 hw)) (by decide) (t := .int) (t' := (.array .int)) (by decide) (by decide)))
  have F23 := F11.other W19 (Or.inr (RoadKit.slot_ne (Or.inl (wd23 hw)) (Or.inl (wd48 hw)) (by decide) (t := .int) (t' := (.array .int)) (by decide) (by decide)))
  have F24 := F12.other W19 (Or.inr (RoadKit.slot_ne (Or.inl (wd31 hw)) (Or.inl (wd48 hw)) (by decide) (t := (.object "com/example/horatius/horatius/core/NodeKind")) (t' := (.array .int)) (by decide) (by decide)))
  have F25 := F13.other W19 (Or.inr (RoadKit.slot_ne (Or.inl (wd33 hw)) (Or.inl (wd48 hw)) (by decide) (t := .int) (t' := (.array .int)) (by decide) (by decide)))
  have F26 := F14.other W19 (Or.inr (RoadKit.slot_ne (Or.inl (wd35 hw)) (Or.inl (wd48 hw)) (by decide) (t := .int) (t' := (.array .int)) (by decide) (by decide)))
  have F27 := F15.other W19 (Or.inr (RoadKit.slot_ne (Or.inl (wd37 hw)) (Or.inl (wd48 hw)) (by decide) (t := .int) (t' := (.array .int)) (by decide) (by decide)))
  have F28 := F16.same W19
  have F29 := F17.other W19 (Or.inr (RoadKit.slot_ne (Or.inl (wd50 hw)) (Or.inl (wd48 hw)) (by decide) (t := .int) (t' := (.array .int)) (by decide) (by decide)))
  have I30 := A7.other W19 (Nat.ne_of_gt lt_a_a2)
  exact K.ret dS0_11 (by decide) (by decide) ⟨rfl, _, ks_a2, g5, K20, ⟨F22, F23, F24, F25, F26, F27, F28, F29⟩, I30⟩
set_option maxRecDepth 65536 in
set_option maxHeartbeats 40000000 in
theorem rmOI (l : Launch) (Z : State) (a0 : Array Value) (hw : ∀ d ∈ tables_1, d.before a0 Z = true) (pg su be ek : Addr) (st lv : Int32) (n : Nat) (h : Heap) (n0 : Nat) (PE : Exa Z h pg "com/example/horatius/horatius/core/OutlinePage") (gpg : n0 ≤ pg) (O0 : Fld Z h pg "com/example/horatius/horatius/core/OutlinePage" "start" "I" (.int (0 : Int32))) (O1 : Fld Z h pg "com/example/horatius/horatius/core/OutlinePage" "summary" "Lcom/example/horatius/horatius/core/PageSummary;" .null) (O2 : Fld Z h pg "com/example/horatius/horatius/core/OutlinePage" "nameCount" "I" (.int (0 : Int32))) (O3 : Fld Z h pg "com/example/horatius/horatius/core/OutlinePage" "kinds" "[B" .null) (O4 : Fld Z h pg "com/example/horatius/horatius/core/OutlinePage" "names" "[I" .null) (O5 : Fld Z h pg "com/example/horatius/horatius/core/OutlinePage" "depths" "[I" .null) (O6 : Fld Z h pg "com/example/horatius/horatius/core/OutlinePage" "parents" "[I" .null) (O7 : Fld Z h pg "com/example/horatius/horatius/core/OutlinePage" "subtreeEnds" "[I" .null) (O8 : Fld Z h pg "com/example/horatius/horatius/core/OutlinePage" "gathered" "Lcom/example/horatius/horatius/core/PageSummary;" .null) (O9 : Fld Z h pg "com/example/horatius/horatius/core/OutlinePage" "size" "I" (.int (0 : Int32))) (O10 : Fld Z h pg "com/example/horatius/horatius/core/OutlinePage" "previousKind" "Lcom/example/horatius/horatius/core/NodeKind;" .null) (O11 : Fld Z h pg "com/example/horatius/horatius/core/OutlinePage" "previousDepth" "I" (.int (0 : Int32))) (O12 : Fld Z h pg "com/example/horatius/horatius/core/OutlinePage" "openBefore" "I" (.int (0 : Int32))) (O13 : Fld Z h pg "com/example/horatius/horatius/core/OutlinePage" "open" "[I" .null) (O14 : Fld Z h pg "com/example/horatius/horatius/core/OutlinePage" "openCount" "I" (.int (0 : Int32))) (O15 : Fld Z h pg "com/example/horatius/horatius/core/OutlinePage" "shallowestFromStart" "[I" .null) (O16 : Fld Z h pg "com/example/horatius/horatius/core/OutlinePage" "shallowestToEnd" "[I" .null) (O17 : Fld Z h pg "com/example/horatius/horatius/core/OutlinePage" "ended" "Z" (.int (0 : Int32))) (O18 : Fld Z h pg "com/example/horatius/horatius/core/OutlinePage" "index" "I" (.int (0 : Int32))) (PSu : Exa Z h su "com/example/horatius/horatius/core/PageSummary") (PBe : Exa Z h be "com/example/horatius/horatius/core/PageSummary") (PN : Fld Z h su "com/example/horatius/horatius/core/PageSummary" "nodes" "I" (.int (Int32.ofNat n))) (PLk : Fld Z h be "com/example/horatius/horatius/core/PageSummary" "lastKind" "Lcom/example/horatius/horatius/core/NodeKind;" (.ref ek)) (PLd : Fld Z h be "com/example/horatius/horatius/core/PageSummary" "lastDepth" "I" (.int lv)) (PEl : Sta Z h "com/example/horatius/horatius/core/NodeKind" "ELEMENT" "Lcom/example/horatius/horatius/core/NodeKind;" (.ref ek)) (hsp : su ≠ pg) (hbp : be ≠ pg) (hn : n ≤ 4) : Con l Z ⟨"com/example/horatius/horatius/core/OutlinePage", "<init>", "(IILcom/example/horatius/horatius/core/PageSummary;Lcom/example/horatius/horatius/core/PageSummary;I)V"⟩ prog_19_method_1_code 8 none ({ frames := 2, cells := 8, slots := 44, locals := 26 } : Room) #[.ref pg, .int (1 : Int32), .int st, .ref su, .ref be, .int (1 : Int32)] h n0 (fun vr h' => vr = none ∧ (∃ ki na de pa sb ga ag op : Addr, (pg < ga ∧ ga < ag ∧ ag < op ∧ op < ki ∧ ki < na ∧ na < de ∧ de < pa ∧ pa < sb) ∧ Keep h h' [pg] ∧ Exa Z h' ga "com/example/horatius/horatius/core/PageSummary" ∧ Pg Z h' pg su ki na de pa sb ga op st (0 : Int32) (.ref ek) lv (lv + (1 : Int32)) (0 : Int32) ∧ Ga Z h' ga ag (0 : Int32) (0 : Int32) .null (0 : Int32) ∧ Ia Z h' ag .int (0 : Int32) (fun _ => .int 0) ∧ Ia Z h' op .int (16 : Int32) (fun _ => .int 0) ∧ Ia Z h' ki .byte (Int32.ofNat n) (fun _ => .int 0) ∧ Ia Z h' na .int (Int32.ofNat n) (fun _ => .int 0) ∧ Ia Z h' de .int (Int32.ofNat n) (fun _ => .int 0) ∧ Ia Z h' pa .int (Int32.ofNat n) (fun _ => .int 0) ∧ Ia Z h' sb .int (Int32.ofNat n) (fun _ => .int 0))) := by
  refine Con.of pnOI (fun m_ => efOI m_ pg (1 : Int32) st su be (1 : Int32)) (fun E K => ?_)
  have K1 : Keep h h [pg] := Keep.refl _ _
  refine K.aloadN dOI_0 rfl rfl ?_
  refine K.initO 0 dOI_1 (wd57 hw) (wd18 hw) (wd19 hw) rfl (by decide) (Nat.le_of_eq rfl) (by decide) ?_
  refine K.aloadN dOI_4 rfl rfl ?_
  refine K.newO 1 8 dOI_5 (wd58 hw) (wd8 hw) (wd9 hw) rfl rfl (by decide) (by decide) (fun h3 a2 ha4 g5 X6 A7 D8 => ?_)
  have ks_a2 := ha_ge K1.1 ha4
  have lt_be_a2 : be < a2 := by rw [ha4]; exact PBe.lt
  have lt_pg_a2 : pg < a2 := by rw [ha4]; exact PE.lt
  have lt_su_a2 : su < a2 := by rw [ha4]; exact PSu.lt
  have K9 := K1.ext X6
  have E10 := PE.ext X6
  have F11 := O0.ext X6
  have F12 := O1.ext X6
  have F13 := O2.ext X6
  have F14 := O3.ext X6
  have F15 := O4.ext X6
  have F16 := O5.ext X6
  have F17 := O6.ext X6
  have F18 := O7.ext X6
  have F19 := O8.ext X6
  have F20 := O9.ext X6
  have F21 := O10.ext X6
  have F22 := O11.ext X6
  have F23 := O12.ext X6
  have F24 := O13.ext X6
  have F25 := O14.ext X6
  have F26 := O15.ext X6
  have F27 := O16.ext X6
  have F28 := O17.ext X6
  have F29 := O18.ext X6
  have E30 := PSu.ext X6
  have E31 := PBe.ext X6
  have F32 := PN.ext X6
  have F33 := PLk.ext X6
  have F34 := PLd.ext X6
  have S35 := PEl.ext X6
  have F36 : Fld Z h3 a2 "com/example/horatius/horatius/core/PageSummary" "nodes" "I" (.int (0 : Int32)) := D8 (Or.inl (wd21 hw)) (ty := .int) (by decide)
  have F37 : Fld Z h3 a2 "com/example/horatius/horatius/core/PageSummary" "leastDepth" "I" (.int (0 : Int32)) := D8 (Or.inl (wd23 hw)) (ty := .int) (by decide)
  have F38 : Fld Z h3 a2 "com/example/horatius/horatius/core/PageSummary" "lastKind" "Lcom/example/horatius/horatius/core/NodeKind;" .null := D8 (Or.inl (wd31 hw)) (ty := (.object "com/example/horatius/horatius/core/NodeKind")) (by decide)
  have F39 : Fld Z h3 a2 "com/example/horatius/horatius/core/PageSummary" "lastDepth" "I" (.int (0 : Int32)) := D8 (Or.inl (wd33 hw)) (ty := .int) (by decide)
  have F40 : Fld Z h3 a2 "com/example/horatius/horatius/core/PageSummary" "topElements" "I" (.int (0 : Int32)) := D8 (Or.inl (wd35 hw)) (ty := .int) (by decide)
  have F41 : Fld Z h3 a2 "com/example/horatius/horatius/core/PageSummary" "typedAttributes" "I" (.int (0 : Int32)) := D8 (Or.inl (wd37 hw)) (ty := .int) (by decide)
  have F42 : Fld Z h3 a2 "com/example/horatius/horatius/core/PageSummary" "asides" "[I" .null := D8 (Or.inl (wd48 hw)) (ty := (.array .int)) (by decide)
  have F43 : Fld Z h3 a2 "com/example/horatius/horatius/core/PageSummary" "asideCount" "I" (.int (0 : Int32)) := D8 (Or.inl (wd50 hw)) (ty := .int) (by decide)
  refine K.dup dOI_8 rfl ?_
  refine K.callI (a := a2) [] [.ref a2, .ref pg] 2 2 8 dOI_9 rfl rfl (wd59 hw) (wd60 hw) (wd9 hw) (wd61 hw) (by decide) (rmS0 l Z a0 hw a2 h3 n0 A7 g5 F36 F37 F38 F39 F40 F41 F42 F43) rfl (lenOf pd_2 rfl) rfl (Nat.le_of_eq rfl) (by decide) (by decide) rfl rfl (by decide) (by decide) (goU fun h44 q45 => ?_)
  obtain ⟨c46, g47, e48, K49, G50, A51⟩ := q45
  have lt_a2_c46 : a2 < c46 := Nat.lt_of_lt_of_le A7.lt g47
  have lt_be_c46 : be < c46 := Nat.lt_of_lt_of_le E31.lt g47
  have lt_pg_c46 : pg < c46 := Nat.lt_of_lt_of_le E10.lt g47
  have lt_su_c46 : su < c46 := Nat.lt_of_lt_of_le E30.lt g47
  have ks52 := Nat.le_trans K9.1 g47
  have K53 := K9.trans K49 (allS (Or.inr ks_a2) all0)
  have E54 := E10.keep K49
  have F55 := F11.keep K49 (ninS (Nat.ne_of_lt lt_pg_a2) nin0)
  have F56 := F12.keep K49 (ninS (Nat.ne_of_lt lt_pg_a2) nin0)
  have F57 := F13.keep K49 (ninS (Nat.ne_of_lt lt_pg_a2) nin0)
  have F58 := F14.keep K49 (ninS (Nat.ne_of_lt lt_pg_a2) nin0)
  have F59 := F15.keep K49 (ninS (Nat.ne_of_lt lt_pg_a2) nin0)
  have F60 := F16.keep K49 (ninS (Nat.ne_of_lt lt_pg_a2) nin0)
  have F61 := F17.keep K49 (ninS (Nat.ne_of_lt lt_pg_a2) nin0)
  have F62 := F18.keep K49 (ninS (Nat.ne_of_lt lt_pg_a2) nin0)
  have F63 := F19.keep K49 (ninS (Nat.ne_of_lt lt_pg_a2) nin0)
  have F64 := F20.keep K49 (ninS (Nat.ne_of_lt lt_pg_a2) nin0)
  have F65 := F21.keep K49 (ninS (Nat.ne_of_lt lt_pg_a2) nin0)
  have F66 := F22.keep K49 (ninS (Nat.ne_of_lt lt_pg_a2) nin0)
  have F67 := F23.keep K49 (ninS (Nat.ne_of_lt lt_pg_a2) nin0)
  have F68 := F24.keep K49 (ninS (Nat.ne_of_lt lt_pg_a2) nin0)
  have F69 := F25.keep K49 (ninS (Nat.ne_of_lt lt_pg_a2) nin0)
  have F70 := F26.keep K49 (ninS (Nat.ne_of_lt lt_pg_a2) nin0)
  have F71 := F27.keep K49 (ninS (Nat.ne_of_lt lt_pg_a2) nin0)
  have F72 := F28.keep K49 (ninS (Nat.ne_of_lt lt_pg_a2) nin0)
  have F73 := F29.keep K49 (ninS (Nat.ne_of_lt lt_pg_a2) nin0)
  have E74 := E30.keep K49
  have E75 := E31.keep K49
  have F76 := F32.keep K49 (ninS (Nat.ne_of_lt lt_su_a2) nin0)
  have F77 := F33.keep K49 (ninS (Nat.ne_of_lt lt_be_a2) nin0)
  have F78 := F34.keep K49 (ninS (Nat.ne_of_lt lt_be_a2) nin0)
  have S79 := staK S35 K49 (allS (plE A7) all0)
  have E80 := A7.keep K49
  obtain ⟨F81, F82, F83, F84, F85, F86, F87, F88⟩ := G50
  refine K.putF dOI_12 (wd62 hw) F63 E54 (Or.inr ⟨(wd63 hw), rfl, rfl⟩) (wd52 hw) (ty := (.object "com/example/horatius/horatius/core/PageSummary")) (by decide) rfl rfl gpg (fun h89 W90 => ?_)
  have K91 := K53.wr W90 (Or.inl (List.mem_of_getElem? (i := 0) rfl))
  have E92 := E54.wr W90
  have F93 := F55.other W90 (Or.inr (RoadKit.slot_ne (Or.inr (wd69 hw)) (Or.inr (wd63 hw)) (by decide) (t := .int) (t' := (.object "com/example/horatius/horatius/core/PageSummary")) (by decide) (by decide)))
  have F94 := F56.other W90 (Or.inr (RoadKit.slot_ne (Or.inr (wd71 hw)) (Or.inr (wd63 hw)) (by decide) (t := (.object "com/example/horatius/horatius/core/PageSummary")) (t' := (.object "com/example/horatius/horatius/core/PageSummary")) (by decide) (by decide)))
  have F95 := F57.other W90 (Or.inr (RoadKit.slot_ne (Or.inr (wd73 hw)) (Or.inr (wd63 hw)) (by decide) (t := .int) (t' := (.object "com/example/horatius/horatius/core/PageSummary")) (by decide) (by decide)))
  have F96 := F58.other W90 (Or.inr (RoadKit.slot_ne (Or.inr (wd98 hw)) (Or.inr (wd63 hw)) (by decide) (t := (.array .byte)) (t' := (.object "com/example/horatius/horatius/core/PageSummary")) (by decide) (by decide)))
  have F97 := F59.other W90 (Or.inr (RoadKit.slot_ne (Or.inr (wd100 hw)) (Or.inr (wd63 hw)) (by decide) (t := (.array .int)) (t' := (.object "com/example/horatius/horatius/core/PageSummary")) (by decide) (by decide)))
  have F98 := F60.other W90 (Or.inr (RoadKit.slot_ne (Or.inr (wd102 hw)) (Or.inr (wd63 hw)) (by decide) (t := (.array .int)) (t' := (.object "com/example/horatius/horatius/core/PageSummary")) (by decide) (by decide)))
  have F99 := F61.other W90 (Or.inr (RoadKit.slot_ne (Or.inr (wd104 hw)) (Or.inr (wd63 hw)) (by decide) (t := (.array .int)) (t' := (.object "com/example/horatius/horatius/core/PageSummary")) (by decide) (by decide)))
  have F100 := F62.other W90 (Or.inr (RoadKit.slot_ne (Or.inr (wd106 hw)) (Or.inr (wd63 hw)) (by decide) (t := (.array .int)) (t' := (.object "com/example/horatius/horatius/core/PageSummary")) (by decide) (by decide)))
  have F101 := F63.same W90
  have F102 := F64.other W90 (Or.inr (RoadKit.slot_ne (Or.inl (wd121 hw)) (Or.inr (wd63 hw)) (by decide) (t := .int) (t' := (.object "com/example/horatius/horatius/core/PageSummary")) (by decide) (by decide)))
  have F103 := F65.other W90 (Or.inr (RoadKit.slot_ne (Or.inl (wd80 hw)) (Or.inr (wd63 hw)) (by decide) (t := (.object "com/example/horatius/horatius/core/NodeKind")) (t' := (.object "com/example/horatius/horatius/core/PageSummary")) (by decide) (by decide)))
  have F104 := F66.other W90 (Or.inr (RoadKit.slot_ne (Or.inl (wd87 hw)) (Or.inr (wd63 hw)) (by decide) (t := .int) (t' := (.object "com/example/horatius/horatius/core/PageSummary")) (by decide) (by decide)))
  have F105 := F67.other W90 (Or.inr (RoadKit.slot_ne (Or.inl (wd90 hw)) (Or.inr (wd63 hw)) (by decide) (t := .int) (t' := (.object "com/example/horatius/horatius/core/PageSummary")) (by decide) (by decide)))
  have F106 := F68.other W90 (Or.inr (RoadKit.slot_ne (Or.inl (wd65 hw)) (Or.inr (wd63 hw)) (by decide) (t := (.array .int)) (t' := (.object "com/example/horatius/horatius/core/PageSummary")) (by decide) (by decide)))
  have F107 := F69.other W90 (Or.inr (RoadKit.slot_ne (Or.inl (wd123 hw)) (Or.inr (wd63 hw)) (by decide) (t := .int) (t' := (.object "com/example/horatius/horatius/core/PageSummary")) (by decide) (by decide)))
  have F108 := F70.other W90 (Or.inr (RoadKit.slot_ne (Or.inl (wd208 hw)) (Or.inr (wd63 hw)) (by decide) (t := (.array .int)) (t' := (.object "com/example/horatius/horatius/core/PageSummary")) (by decide) (by decide)))
  have F109 := F71.other W90 (Or.inr (RoadKit.slot_ne (Or.inl (wd210 hw)) (Or.inr (wd63 hw)) (by decide) (t := (.array .int)) (t' := (.object "com/example/horatius/horatius/core/PageSummary")) (by decide) (by decide)))
  have F110 := F72.other W90 (Or.inr (RoadKit.slot_ne (Or.inl (wd142 hw)) (Or.inr (wd63 hw)) (by decide) (t := .boolean) (t' := (.object "com/example/horatius/horatius/core/PageSummary")) (by decide) (by decide)))
  have F111 := F73.other W90 (Or.inr (RoadKit.slot_ne (Or.inr (wd67 hw)) (Or.inr (wd63 hw)) (by decide) (t := .int) (t' := (.object "com/example/horatius/horatius/core/PageSummary")) (by decide) (by decide)))
  have E112 := E74.wr W90
  have E113 := E75.wr W90
  have F114 := F76.other W90 (Or.inl hsp)
  have F115 := F77.other W90 (Or.inl hbp)
  have F116 := F78.other W90 (Or.inl hbp)
  have S117 := S79.wr W90
  have E118 := E80.wr W90
  have F119 := F81.other W90 (Or.inl (Nat.ne_of_gt lt_pg_a2))
  have F120 := F82.other W90 (Or.inl (Nat.ne_of_gt lt_pg_a2))
  have F121 := F83.other W90 (Or.inl (Nat.ne_of_gt lt_pg_a2))
  have F122 := F84.other W90 (Or.inl (Nat.ne_of_gt lt_pg_a2))
  have F123 := F85.other W90 (Or.inl (Nat.ne_of_gt lt_pg_a2))
  have F124 := F86.other W90 (Or.inl (Nat.ne_of_gt lt_pg_a2))
  have F125 := F87.other W90 (Or.inl (Nat.ne_of_gt lt_pg_a2))
  have F126 := F88.other W90 (Or.inl (Nat.ne_of_gt lt_pg_a2))
  have I127 := A51.other W90 (Nat.ne_of_gt lt_pg_c46)
  refine K.aloadN dOI_15 rfl rfl ?_
  refine K.bipush (16 : Int32) dOI_16 rfl ?_
  refine K.newP (ty := .int) (dv := .int 0) 16 3 24 dOI_18 (wd13 hw) rfl rfl (by decide) (by decide) (by decide) rfl rfl (by decide) (by decide) (fun h129 a128 ha130 g131 X132 A133 => ?_)
  have ks_a128 := ha_ge K91.1 ha130
  have lt_a2_a128 : a2 < a128 := by rw [ha130]; exact E118.lt
  have lt_be_a128 : be < a128 := by rw [ha130]; exact E113.lt
  have lt_c46_a128 : c46 < a128 := by rw [ha130]; exact I127.lt
  have lt_pg_a128 : pg < a128 := by rw [ha130]; exact E92.lt
  have lt_su_a128 : su < a128 := by rw [ha130]; exact E112.lt
  have K134 := K91.ext X132
  have E135 := E92.ext X132
  have F136 := F93.ext X132
  have F137 := F94.ext X132
  have F138 := F95.ext X132
  have F139 := F96.ext X132
  have F140 := F97.ext X132
  have F141 := F98.ext X132
  have F142 := F99.ext X132
  have F143 := F100.ext X132
  have F144 := F101.ext X132
  have F145 := F102.ext X132
  have F146 := F103.ext X132
  have F147 := F104.ext X132
  have F148 := F105.ext X132
  have F149 := F106.ext X132
  have F150 := F107.ext X132
  have F151 := F108.ext X132
  have F152 := F109.ext X132
  have F153 := F110.ext X132
  have F154 := F111.ext X132
  have E155 := E112.ext X132
  have E156 := E113.ext X132
  have F157 := F114.ext X132
  have F158 := F115.ext X132
  have F159 := F116.ext X132
  have S160 := S117.ext X132
  have E161 := E118.ext X132
  have F162 := F119.ext X132
  have F163 := F120.ext X132
  have F164 := F121.ext X132
  have F165 := F122.ext X132
  have F166 := F123.ext X132
  have F167 := F124.ext X132
  have F168 := F125.ext X132
  have F169 := F126.ext X132
  have I170 := I127.ext X132
  refine K.putF dOI_20 (wd64 hw) F149 E135 (Or.inl (wd65 hw)) (wd52 hw) (ty := (.array .int)) (by decide) rfl rfl gpg (fun h171 W172 => ?_)
  have K173 := K134.wr W172 (Or.inl (List.mem_of_getElem? (i := 0) rfl))
  have E174 := E135.wr W172
  have F175 := F136.other W172 (Or.inr (RoadKit.slot_ne (Or.inr (wd69 hw)) (Or.inl (wd65 hw)) (by decide) (t := .int) (t' := (.array .int)) (by decide) (by decide)))
  have F176 := F137.other W172 (Or.inr (RoadKit.slot_ne (Or.inr (wd71 hw)) (Or.inl (wd65 hw)) (by decide) (t := (.object "com/example/horatius/horatius/core/PageSummary")) (t' := (.array .int)) (by decide) (by decide)))
  have F177 := F138.other W172 (Or.inr (RoadKit.slot_ne (Or.inr (wd73 hw)) (Or.inl (wd65 hw)) (by decide) (t := .int) (t' := (.array .int)) (by decide) (by decide)))
  have F178 := F139.other W172 (Or.inr (RoadKit.slot_ne (Or.inr (wd98 hw)) (Or.inl (wd65 hw)) (by decide) (t := (.array .byte)) (t' := (.array .int)) (by decide) (by decide)))
  have F179 := F140.other W172 (Or.inr (RoadKit.slot_ne (Or.inr (wd100 hw)) (Or.inl (wd65 hw)) (by decide) (t := (.array .int)) (t' := (.array .int)) (by decide) (by decide)))
  have F180 := F141.other W172 (Or.inr (RoadKit.slot_ne (Or.inr (wd102 hw)) (Or.inl (wd65 hw)) (by decide) (t := (.array .int)) (t' := (.array .int)) (by decide) (by decide)))
  have F181 := F142.other W172 (Or.inr (RoadKit.slot_ne (Or.inr (wd104 hw)) (Or.inl (wd65 hw)) (by decide) (t := (.array .int)) (t' := (.array .int)) (by decide) (by decide)))
  have F182 := F143.other W172 (Or.inr (RoadKit.slot_ne (Or.inr (wd106 hw)) (Or.inl (wd65 hw)) (by decide) (t := (.array .int)) (t' := (.array .int)) (by decide) (by decide)))
  have F183 := F144.other W172 (Or.inr (RoadKit.slot_ne (Or.inr (wd63 hw)) (Or.inl (wd65 hw)) (by decide) (t := (.object "com/example/horatius/horatius/core/PageSummary")) (t' := (.array .int)) (by decide) (by decide)))
  have F184 := F145.other W172 (Or.inr (RoadKit.slot_ne (Or.inl (wd121 hw)) (Or.inl (wd65 hw)) (by decide) (t := .int) (t' := (.array .int)) (by decide) (by decide)))
  have F185 := F146.other W172 (Or.inr (RoadKit.slot_ne (Or.inl (wd80 hw)) (Or.inl (wd65 hw)) (by decide) (t := (.object "com/example/horatius/horatius/core/NodeKind")) (t' := (.array .int)) (by decide) (by decide)))
  have F186 := F147.other W172 (Or.inr (RoadKit.slot_ne (Or.inl (wd87 hw)) (Or.inl (wd65 hw)) (by decide) (t := .int) (t' := (.array .int)) (by decide) (by decide)))
  have F187 := F148.other W172 (Or.inr (RoadKit.slot_ne (Or.inl (wd90 hw)) (Or.inl (wd65 hw)) (by decide) (t := .int) (t' := (.array .int)) (by decide) (by decide)))
  have F188 := F149.same W172
  have F189 := F150.other W172 (Or.inr (RoadKit.slot_ne (Or.inl (wd123 hw)) (Or.inl (wd65 hw)) (by decide) (t := .int) (t' := (.array .int)) (by decide) (by decide)))
  have F190 := F151.other W172 (Or.inr (RoadKit.slot_ne (Or.inl (wd208 hw)) (Or.inl (wd65 hw)) (by decide) (t := (.array .int)) (t' := (.array .int)) (by decide) (by decide)))
  have F191 := F152.other W172 (Or.inr (RoadKit.slot_ne (Or.inl (wd210 hw)) (Or.inl (wd65 hw)) (by decide) (t := (.array .int)) (t' := (.array .int)) (by decide) (by decide)))
  have F192 := F153.other W172 (Or.inr (RoadKit.slot_ne (Or.inl (wd142 hw)) (Or.inl (wd65 hw)) (by decide) (t := .boolean) (t' := (.array .int)) (by decide) (by decide)))
  have F193 := F154.other W172 (Or.inr (RoadKit.slot_ne (Or.inr (wd67 hw)) (Or.inl (wd65 hw)) (by decide) (t := .int) (t' := (.array .int)) (by decide) (by decide)))
  have E194 := E155.wr W172
  have E195 := E156.wr W172
  have F196 := F157.other W172 (Or.inl hsp)
  have F197 := F158.other W172 (Or.inl hbp)
  have F198 := F159.other W172 (Or.inl hbp)
  have S199 := S160.wr W172
  have E200 := E161.wr W172
  have F201 := F162.other W172 (Or.inl (Nat.ne_of_gt lt_pg_a2))
  have F202 := F163.other W172 (Or.inl (Nat.ne_of_gt lt_pg_a2))
  have F203 := F164.other W172 (Or.inl (Nat.ne_of_gt lt_pg_a2))
  have F204 := F165.other W172 (Or.inl (Nat.ne_of_gt lt_pg_a2))
  have F205 := F166.other W172 (Or.inl (Nat.ne_of_gt lt_pg_a2))
  have F206 := F167.other W172 (Or.inl (Nat.ne_of_gt lt_pg_a2))
  have F207 := F168.other W172 (Or.inl (Nat.ne_of_gt lt_pg_a2))
  have F208 := F169.other W172 (Or.inl (Nat.ne_of_gt lt_pg_a2))
  have I209 := I170.other W172 (Nat.ne_of_gt lt_pg_c46)
  have I210 := A133.other W172 (Nat.ne_of_gt lt_pg_a128)
  refine K.aloadN dOI_23 rfl rfl ?_
  refine K.iloadN dOI_24 rfl ?_
  refine K.putF dOI_25 (wd66 hw) F193 E174 (Or.inr ⟨(wd67 hw), rfl, rfl⟩) (wd52 hw) (ty := .int) (by decide) rfl rfl gpg (fun h211 W212 => ?_)
  have K213 := K173.wr W212 (Or.inl (List.mem_of_getElem? (i := 0) rfl))
  have E214 := E174.wr W212
  have F215 := F175.other W212 (Or.inr (RoadKit.slot_ne (Or.inr (wd69 hw)) (Or.inr (wd67 hw)) (by decide) (t := .int) (t' := .int) (by decide) (by decide)))
  have F216 := F176.other W212 (Or.inr (RoadKit.slot_ne (Or.inr (wd71 hw)) (Or.inr (wd67 hw)) (by decide) (t := (.object "com/example/horatius/horatius/core/PageSummary")) (t' := .int) (by decide) (by decide)))
  have F217 := F177.other W212 (Or.inr (RoadKit.slot_ne (Or.inr (wd73 hw)) (Or.inr (wd67 hw)) (by decide) (t := .int) (t' := .int) (by decide) (by decide)))
  have F218 := F178.other W212 (Or.inr (RoadKit.slot_ne (Or.inr (wd98 hw)) (Or.inr (wd67 hw)) (by decide) (t := (.array .byte)) (t' := .int) (by decide) (by decide)))
  have F219 := F179.other W212 (Or.inr (RoadKit.slot_ne (Or.inr (wd100 hw)) (Or.inr (wd67 hw)) (by decide) (t := (.array .int)) (t' := .int) (by decide) (by decide)))
  have F220 := F180.other W212 (Or.inr (RoadKit.slot_ne (Or.inr (wd102 hw)) (Or.inr (wd67 hw)) (by decide) (t := (.array .int)) (t' := .int) (by decide) (by decide)))
  have F221 := F181.other W212 (Or.inr (RoadKit.slot_ne (Or.inr (wd104 hw)) (Or.inr (wd67 hw)) (by decide) (t := (.array .int)) (t' := .int) (by decide) (by decide)))
  have F222 := F182.other W212 (Or.inr (RoadKit.slot_ne (Or.inr (wd106 hw)) (Or.inr (wd67 hw)) (by decide) (t := (.array .int)) (t' := .int) (by decide) (by decide)))
  have F223 := F183.other W212 (Or.inr (RoadKit.slot_ne (Or.inr (wd63 hw)) (Or.inr (wd67 hw)) (by decide) (t := (.object "com/example/horatius/horatius/core/PageSummary")) (t' := .int) (by decide) (by decide)))
  have F224 := F184.other W212 (Or.inr (RoadKit.slot_ne (Or.inl (wd121 hw)) (Or.inr (wd67 hw)) (by decide) (t := .int) (t' := .int) (by decide) (by decide)))
  have F225 := F185.other W212 (Or.inr (RoadKit.slot_ne (Or.inl (wd80 hw)) (Or.inr (wd67 hw)) (by decide) (t := (.object "com/example/horatius/horatius/core/NodeKind")) (t' := .int) (by decide) (by decide)))
  have F226 := F186.other W212 (Or.inr (RoadKit.slot_ne (Or.inl (wd87 hw)) (Or.inr (wd67 hw)) (by decide) (t := .int) (t' := .int) (by decide) (by decide)))
  have F227 := F187.other W212 (Or.inr (RoadKit.slot_ne (Or.inl (wd90 hw)) (Or.inr (wd67 hw)) (by decide) (t := .int) (t' := .int) (by decide) (by decide)))
  have F228 := F188.other W212 (Or.inr (RoadKit.slot_ne (Or.inl (wd65 hw)) (Or.inr (wd67 hw)) (by decide) (t := (.array .int)) (t' := .int) (by decide) (by decide)))
  have F229 := F189.other W212 (Or.inr (RoadKit.slot_ne (Or.inl (wd123 hw)) (Or.inr (wd67 hw)) (by decide) (t := .int) (t' := .int) (by decide) (by decide)))
  have F230 := F190.other W212 (Or.inr (RoadKit.slot_ne (Or.inl (wd208 hw)) (Or.inr (wd67 hw)) (by decide) (t := (.array .int)) (t' := .int) (by decide) (by decide)))
  have F231 := F191.other W212 (Or.inr (RoadKit.slot_ne (Or.inl (wd210 hw)) (Or.inr (wd67 hw)) (by decide) (t := (.array .int)) (t' := .int) (by decide) (by decide)))
  have F232 := F192.other W212 (Or.inr (RoadKit.slot_ne (Or.inl (wd142 hw)) (Or.inr (wd67 hw)) (by decide) (t := .boolean) (t' := .int) (by decide) (by decide)))
  have F233 := F193.same W212
  have E234 := E194.wr W212
  have E235 := E195.wr W212
  have F236 := F196.other W212 (Or.inl hsp)
  have F237 := F197.other W212 (Or.inl hbp)
  have F238 := F198.other W212 (Or.inl hbp)
  have S239 := S199.wr W212
  have E240 := E200.wr W212
  have F241 := F201.other W212 (Or.inl (Nat.ne_of_gt lt_pg_a2))
  have F242 := F202.other W212 (Or.inl (Nat.ne_of_gt lt_pg_a2))
  have F243 := F203.other W212 (Or.inl (Nat.ne_of_gt lt_pg_a2))
  have F244 := F204.other W212 (Or.inl (Nat.ne_of_gt lt_pg_a2))
  have F245 := F205.other W212 (Or.inl (Nat.ne_of_gt lt_pg_a2))
  have F246 := F206.other W212 (Or.inl (Nat.ne_of_gt lt_pg_a2))
  have F247 := F207.other W212 (Or.inl (Nat.ne_of_gt lt_pg_a2))
  have F248 := F208.other W212 (Or.inl (Nat.ne_of_gt lt_pg_a2))
  have I249 := I209.other W212 (Nat.ne_of_gt lt_pg_c46)
  have I250 := I210.other W212 (Nat.ne_of_gt lt_pg_a128)
  refine K.aloadN dOI_28 rfl rfl ?_
  refine K.iloadN dOI_29 rfl ?_
  refine K.putF dOI_30 (wd68 hw) F215 E214 (Or.inr ⟨(wd69 hw), rfl, rfl⟩) (wd52 hw) (ty := .int) (by decide) rfl rfl gpg (fun h251 W252 => ?_)
  have K253 := K213.wr W252 (Or.inl (List.mem_of_getElem? (i := 0) rfl))
  have E254 := E214.wr W252
  have F255 := F215.same W252
  have F256 := F216.other W252 (Or.inr (RoadKit.slot_ne (Or.inr (wd71 hw)) (Or.inr (wd69 hw)) (by decide) (t := (.object "com/example/horatius/horatius/core/PageSummary")) (t' := .int) (by decide) (by decide)))
  have F257 := F217.other W252 (Or.inr (RoadKit.slot_ne (Or.inr (wd73 hw)) (Or.inr (wd69 hw)) (by decide) (t := .int) (t' := .int) (by decide) (by decide)))
  have F258 := F218.other W252 (Or.inr (RoadKit.slot_ne (Or.inr (wd98 hw)) (Or.inr (wd69 hw)) (by decide) (t := (.array .byte)) (t' := .int) (by decide) (by decide)))
  have F259 := F219.other W252 (Or.inr (RoadKit.slot_ne (Or.inr (wd100 hw)) (Or.inr (wd69 hw)) (by decide) (t := (.array .int)) (t' := .int) (by decide) (by decide)))
  have F260 := F220.other W252 (Or.inr (RoadKit.slot_ne (Or.inr (wd102 hw)) (Or.inr (wd69 hw)) (by decide) (t := (.array .int)) (t' := .int) (by decide) (by decide)))
  have F261 := F221.other W252 (Or.inr (RoadKit.slot_ne (Or.inr (wd104 hw)) (Or.inr (wd69 hw)) (by decide) (t := (.array .int)) (t' := .int) (by decide) (by decide)))
  have F262 := F222.other W252 (Or.inr (RoadKit.slot_ne (Or.inr (wd106 hw)) (Or.inr (wd69 hw)) (by decide) (t := (.array .int)) (t' := .int) (by decide) (by decide)))
  have F263 := F223.other W252 (Or.inr (RoadKit.slot_ne (Or.inr (wd63 hw)) (Or.inr (wd69 hw)) (by decide) (t := (.object "com/example/horatius/horatius/core/PageSummary")) (t' := .int) (by decide) (by decide)))
  have F264 := F224.other W252 (Or.inr (RoadKit.slot_ne (Or.inl (wd121 hw)) (Or.inr (wd69 hw)) (by decide) (t := .int) (t' := .int) (by decide) (by decide)))
  have F265 := F225.other W252 (Or.inr (RoadKit.slot_ne (Or.inl (wd80 hw)) (Or.inr (wd69 hw)) (by decide) (t := (.object "com/example/horatius/horatius/core/NodeKind")) (t' := .int) (by decide) (by decide)))
  have F266 := F226.other W252 (Or.inr (RoadKit.slot_ne (Or.inl (wd87 hw)) (Or.inr (wd69 hw)) (by decide) (t := .int) (t' := .int) (by decide) (by decide)))
  have F267 := F227.other W252 (Or.inr (RoadKit.slot_ne (Or.inl (wd90 hw)) (Or.inr (wd69 hw)) (by decide) (t := .int) (t' := .int) (by decide) (by decide)))
  have F268 := F228.other W252 (Or.inr (RoadKit.slot_ne (Or.inl (wd65 hw)) (Or.inr (wd69 hw)) (by decide) (t := (.array .int)) (t' := .int) (by decide) (by decide)))
  have F269 := F229.other W252 (Or.inr (RoadKit.slot_ne (Or.inl (wd123 hw)) (Or.inr (wd69 hw)) (by decide) (t := .int) (t' := .int) (by decide) (by decide)))
  have F270 := F230.other W252 (Or.inr (RoadKit.slot_ne (Or.inl (wd208 hw)) (Or.inr (wd69 hw)) (by decide) (t := (.array .int)) (t' := .int) (by decide) (by decide)))
  have F271 := F231.other W252 (Or.inr (RoadKit.slot_ne (Or.inl (wd210 hw)) (Or.inr (wd69 hw)) (by decide) (t := (.array .int)) (t' := .int) (by decide) (by decide)))
  have F272 := F232.other W252 (Or.inr (RoadKit.slot_ne (Or.inl (wd142 hw)) (Or.inr (wd69 hw)) (by decide) (t := .boolean) (t' := .int) (by decide) (by decide)))
  have F273 := F233.other W252 (Or.inr (RoadKit.slot_ne (Or.inr (wd67 hw)) (Or.inr (wd69 hw)) (by decide) (t := .int) (t' := .int) (by decide) (by decide)))
  have E274 := E234.wr W252
  have E275 := E235.wr W252
  have F276 := F236.other W252 (Or.inl hsp)
  have F277 := F237.other W252 (Or.inl hbp)
  have F278 := F238.other W252 (Or.inl hbp)
  have S279 := S239.wr W252
  have E280 := E240.wr W252
  have F281 := F241.other W252 (Or.inl (Nat.ne_of_gt lt_pg_a2))
  have F282 := F242.other W252 (Or.inl (Nat.ne_of_gt lt_pg_a2))
  have F283 := F243.other W252 (Or.inl (Nat.ne_of_gt lt_pg_a2))
  have F284 := F244.other W252 (Or.inl (Nat.ne_of_gt lt_pg_a2))
  have F285 := F245.other W252 (Or.inl (Nat.ne_of_gt lt_pg_a2))
  have F286 := F246.other W252 (Or.inl (Nat.ne_of_gt lt_pg_a2))
  have F287 := F247.other W252 (Or.inl (Nat.ne_of_gt lt_pg_a2))
  have F288 := F248.other W252 (Or.inl (Nat.ne_of_gt lt_pg_a2))
  have I289 := I249.other W252 (Nat.ne_of_gt lt_pg_c46)
  have I290 := I250.other W252 (Nat.ne_of_gt lt_pg_a128)
  refine K.aloadN dOI_33 rfl rfl ?_
  refine K.aloadN dOI_34 rfl rfl ?_
  refine K.putF dOI_35 (wd70 hw) F256 E254 (Or.inr ⟨(wd71 hw), rfl, rfl⟩) (wd52 hw) (ty := (.object "com/example/horatius/horatius/core/PageSummary")) (by decide) rfl rfl gpg (fun h291 W292 => ?_)
  have K293 := K253.wr W292 (Or.inl (List.mem_of_getElem? (i := 0) rfl))
  have E294 := E254.wr W292
  have F295 := F255.other W292 (Or.inr (RoadKit.slot_ne (Or.inr (wd69 hw)) (Or.inr (wd71 hw)) (by decide) (t := .int) (t' := (.object "com/example/horatius/horatius/core/PageSummary")) (by decide) (by decide)))
  have F296 := F256.same W292
  have F297 := F257.other W292 (Or.inr (RoadKit.slot_ne (Or.inr (wd73 hw)) (Or.inr (wd71 hw)) (by decide) (t := .int) (t' := (.object "com/example/horatius/horatius/core/PageSummary")) (by decide) (by decide)))
  have F298 := F258.other W292 (Or.inr (RoadKit.slot_ne (Or.inr (wd98 hw)) (Or.inr (wd71 hw)) (by decide) (t := (.array .byte)) (t' := (.object "com/example/horatius/horatius/core/PageSummary")) (by decide) (by decide)))
  have F299 := F259.other W292 (Or.inr (RoadKit.slot_ne (Or.inr (wd100 hw)) (Or.inr (wd71 hw)) (by decide) (t := (.array .int)) (t' := (.object "com/example/horatius/horatius/core/PageSummary")) (by decide) (by decide)))
  have F300 := F260.other W292 (Or.inr (RoadKit.slot_ne (Or.inr (wd102 hw)) (Or.inr (wd71 hw)) (by decide) (t := (.array .int)) (t' := (.object "com/example/horatius/horatius/core/PageSummary")) (by decide) (by decide)))
  have F301 := F261.other W292 (Or.inr (RoadKit.slot_ne (Or.inr (wd104 hw)) (Or.inr (wd71 hw)) (by decide) (t := (.array .int)) (t' := (.object "com/example/horatius/horatius/core/PageSummary")) (by decide) (by decide)))
  have F302 := F262.other W292 (Or.inr (RoadKit.slot_ne (Or.inr (wd106 hw)) (Or.inr (wd71 hw)) (by decide) (t := (.array .int)) (t' := (.object "com/example/horatius/horatius/core/PageSummary")) (by decide) (by decide)))
  have F303 := F263.other W292 (Or.inr (RoadKit.slot_ne (Or.inr (wd63 hw)) (Or.inr (wd71 hw)) (by decide) (t := (.object "com/example/horatius/horatius/core/PageSummary")) (t' := (.object "com/example/horatius/horatius/core/PageSummary")) (by decide) (by decide)))
  have F304 := F264.other W292 (Or.inr (RoadKit.slot_ne (Or.inl (wd121 hw)) (Or.inr (wd71 hw)) (by decide) (t := .int) (t' := (.object "com/example/horatius/horatius/core/PageSummary")) (by decide) (by decide)))
  have F305 := F265.other W292 (Or.inr (RoadKit.slot_ne (Or.inl (wd80 hw)) (Or.inr (wd71 hw)) (by decide) (t := (.object "com/example/horatius/horatius/core/NodeKind")) (t' := (.object "com/example/horatius/horatius/core/PageSummary")) (by decide) (by decide)))
  have F306 := F266.other W292 (Or.inr (RoadKit.slot_ne (Or.inl (wd87 hw)) (Or.inr (wd71 hw)) (by decide) (t := .int) (t' := (.object "com/example/horatius/horatius/core/PageSummary")) (by decide) (by decide)))
  have F307 := F267.other W292 (Or.inr (RoadKit.slot_ne (Or.inl (wd90 hw)) (Or.inr (wd71 hw)) (by decide) (t := .int) (t' := (.object "com/example/horatius/horatius/core/PageSummary")) (by decide) (by decide)))
  have F308 := F268.other W292 (Or.inr (RoadKit.slot_ne (Or.inl (wd65 hw)) (Or.inr (wd71 hw)) (by decide) (t := (.array .int)) (t' := (.object "com/example/horatius/horatius/core/PageSummary")) (by decide) (by decide)))
  have F309 := F269.other W292 (Or.inr (RoadKit.slot_ne (Or.inl (wd123 hw)) (Or.inr (wd71 hw)) (by decide) (t := .int) (t' := (.object "com/example/horatius/horatius/core/PageSummary")) (by decide) (by decide)))
  have F310 := F270.other W292 (Or.inr (RoadKit.slot_ne (Or.inl (wd208 hw)) (Or.inr (wd71 hw)) (by decide) (t := (.array .int)) (t' := (.object "com/example/horatius/horatius/core/PageSummary")) (by decide) (by decide)))
  have F311 := F271.other W292 (Or.inr (RoadKit.slot_ne (Or.inl (wd210 hw)) (Or.inr (wd71 hw)) (by decide) (t := (.array .int)) (t' := (.object "com/example/horatius/horatius/core/PageSummary")) (by decide) (by decide)))
  have F312 := F272.other W292 (Or.inr (RoadKit.slot_ne (Or.inl (wd142 hw)) (Or.inr (wd71 hw)) (by decide) (t := .boolean) (t' := (.object "com/example/horatius/horatius/core/PageSummary")) (by decide) (by decide)))
  have F313 := F273.other W292 (Or.inr (RoadKit.slot_ne (Or.inr (wd67 hw)) (Or.inr (wd71 hw)) (by decide) (t := .int) (t' := (.object "com/example/horatius/horatius/core/PageSummary")) (by decide) (by decide)))
  have E314 := E274.wr W292
  have E315 := E275.wr W292
  have F316 := F276.other W292 (Or.inl hsp)
  have F317 := F277.other W292 (Or.inl hbp)
  have F318 := F278.other W292 (Or.inl hbp)
  have S319 := S279.wr W292
  have E320 := E280.wr W292
  have F321 := F281.other W292 (Or.inl (Nat.ne_of_gt lt_pg_a2))
  have F322 := F282.other W292 (Or.inl (Nat.ne_of_gt lt_pg_a2))
  have F323 := F283.other W292 (Or.inl (Nat.ne_of_gt lt_pg_a2))
  have F324 := F284.other W292 (Or.inl (Nat.ne_of_gt lt_pg_a2))
  have F325 := F285.other W292 (Or.inl (Nat.ne_of_gt lt_pg_a2))
  have F326 := F286.other W292 (Or.inl (Nat.ne_of_gt lt_pg_a2))
  have F327 := F287.other W292 (Or.inl (Nat.ne_of_gt lt_pg_a2))
  have F328 := F288.other W292 (Or.inl (Nat.ne_of_gt lt_pg_a2))
  have I329 := I289.other W292 (Nat.ne_of_gt lt_pg_c46)
  have I330 := I290.other W292 (Nat.ne_of_gt lt_pg_a128)
  refine K.aloadN dOI_38 rfl rfl ?_
  refine K.iload dOI_39 rfl ?_
  refine K.putF dOI_41 (wd72 hw) F297 E294 (Or.inr ⟨(wd73 hw), rfl, rfl⟩) (wd52 hw) (ty := .int) (by decide) rfl rfl gpg (fun h331 W332 => ?_)
  have K333 := K293.wr W332 (Or.inl (List.mem_of_getElem? (i := 0) rfl))
  have E334 := E294.wr W332
  have F335 := F295.other W332 (Or.inr (RoadKit.slot_ne (Or.inr (wd69 hw)) (Or.inr (wd73 hw)) (by decide) (t := .int) (t' := .int) (by decide) (by decide)))
  have F336 := F296.other W332 (Or.inr (RoadKit.slot_ne (Or.inr (wd71 hw)) (Or.inr (wd73 hw)) (by decide) (t := (.object "com/example/horatius/horatius/core/PageSummary")) (t' := .int) (by decide) (by decide)))
  have F337 := F297.same W332
  have F338 := F298.other W332 (Or.inr (RoadKit.slot_ne (Or.inr (wd98 hw)) (Or.inr (wd73 hw)) (by decide) (t := (.array .byte)) (t' := .int) (by decide) (by decide)))
  have F339 := F299.other W332 (Or.inr (RoadKit.slot_ne (Or.inr (wd100 hw)) (Or.inr (wd73 hw)) (by decide) (t := (.array .int)) (t' := .int) (by decide) (by decide)))
  have F340 := F300.other W332 (Or.inr (RoadKit.slot_ne (Or.inr (wd102 hw)) (Or.inr (wd73 hw)) (by decide) (t := (.array .int)) (t' := .int) (by decide) (by decide)))
  have F341 := F301.other W332 (Or.inr (RoadKit.slot_ne (Or.inr (wd104 hw)) (Or.inr (wd73 hw)) (by decide) (t := (.array .int)) (t' := .int) (by decide) (by decide)))
  have F342 := F302.other W332 (Or.inr (RoadKit.slot_ne (Or.inr (wd106 hw)) (Or.inr (wd73 hw)) (by decide) (t := (.array .int)) (t' := .int) (by decide) (by decide)))
  have F343 := F303.other W332 (Or.inr (RoadKit.slot_ne (Or.inr (wd63 hw)) (Or.inr (wd73 hw)) (by decide) (t := (.object "com/example/horatius/horatius/core/PageSummary")) (t' := .int) (by decide) (by decide)))
  have F344 := F304.other W332 (Or.inr (RoadKit.slot_ne (Or.inl (wd121 hw)) (Or.inr (wd73 hw)) (by decide) (t := .int) (t' := .int) (by decide) (by decide)))
  have F345 := F305.other W332 (Or.inr (RoadKit.slot_ne (Or.inl (wd80 hw)) (Or.inr (wd73 hw)) (by decide) (t := (.object "com/example/horatius/horatius/core/NodeKind")) (t' := .int) (by decide) (by decide)))
  have F346 := F306.other W332 (Or.inr (RoadKit.slot_ne (Or.inl (wd87 hw)) (Or.inr (wd73 hw)) (by decide) (t := .int) (t' := .int) (by decide) (by decide)))
  have F347 := F307.other W332 (Or.inr (RoadKit.slot_ne (Or.inl (wd90 hw)) (Or.inr (wd73 hw)) (by decide) (t := .int) (t' := .int) (by decide) (by decide)))
  have F348 := F308.other W332 (Or.inr (RoadKit.slot_ne (Or.inl (wd65 hw)) (Or.inr (wd73 hw)) (by decide) (t := (.array .int)) (t' := .int) (by decide) (by decide)))
  have F349 := F309.other W332 (Or.inr (RoadKit.slot_ne (Or.inl (wd123 hw)) (Or.inr (wd73 hw)) (by decide) (t := .int) (t' := .int) (by decide) (by decide)))
  have F350 := F310.other W332 (Or.inr (RoadKit.slot_ne (Or.inl (wd208 hw)) (Or.inr (wd73 hw)) (by decide) (t := (.array .int)) (t' := .int) (by decide) (by decide)))
  have F351 := F311.other W332 (Or.inr (RoadKit.slot_ne (Or.inl (wd210 hw)) (Or.inr (wd73 hw)) (by decide) (t := (.array .int)) (t' := .int) (by decide) (by decide)))
  have F352 := F312.other W332 (Or.inr (RoadKit.slot_ne (Or.inl (wd142 hw)) (Or.inr (wd73 hw)) (by decide) (t := .boolean) (t' := .int) (by decide) (by decide)))
  have F353 := F313.other W332 (Or.inr (RoadKit.slot_ne (Or.inr (wd67 hw)) (Or.inr (wd73 hw)) (by decide) (t := .int) (t' := .int) (by decide) (by decide)))
  have E354 := E314.wr W332
  have E355 := E315.wr W332
  have F356 := F316.other W332 (Or.inl hsp)
  have F357 := F317.other W332 (Or.inl hbp)
  have F358 := F318.other W332 (Or.inl hbp)
  have S359 := S319.wr W332
  have E360 := E320.wr W332
  have F361 := F321.other W332 (Or.inl (Nat.ne_of_gt lt_pg_a2))
  have F362 := F322.other W332 (Or.inl (Nat.ne_of_gt lt_pg_a2))
  have F363 := F323.other W332 (Or.inl (Nat.ne_of_gt lt_pg_a2))
  have F364 := F324.other W332 (Or.inl (Nat.ne_of_gt lt_pg_a2))
  have F365 := F325.other W332 (Or.inl (Nat.ne_of_gt lt_pg_a2))
  have F366 := F326.other W332 (Or.inl (Nat.ne_of_gt lt_pg_a2))
  have F367 := F327.other W332 (Or.inl (Nat.ne_of_gt lt_pg_a2))
  have F368 := F328.other W332 (Or.inl (Nat.ne_of_gt lt_pg_a2))
  have I369 := I329.other W332 (Nat.ne_of_gt lt_pg_c46)
  have I370 := I330.other W332 (Nat.ne_of_gt lt_pg_a128)
  refine K.aloadN dOI_44 rfl rfl ?_
  refine K.aload dOI_45 rfl rfl ?_
  refine K.ifnonnull_ref dOI_47 ?_
  refine K.aload dOI_54 rfl rfl ?_
  refine K.callV (a := be) [] [.ref pg] 1 3 24 dOI_56 (wd74 hw) (wd75 hw) (wd77 hw) (wd76 hw) (wd9 hw) (wd78 hw) (by decide) (rmGK l Z a0 hw be ek h331 n0 F357) E355 rfl (lenOf pd_3 rfl) rfl (Nat.le_of_eq rfl) (by decide) (by decide) rfl rfl (by decide) (by decide) (goP ?_)
  refine K.putF dOI_59 (wd79 hw) F345 E334 (Or.inl (wd80 hw)) (wd52 hw) (ty := (.object "com/example/horatius/horatius/core/NodeKind")) (by decide) rfl rfl gpg (fun h371 W372 => ?_)
  have K373 := K333.wr W372 (Or.inl (List.mem_of_getElem? (i := 0) rfl))
  have E374 := E334.wr W372
  have F375 := F335.other W372 (Or.inr (RoadKit.slot_ne (Or.inr (wd69 hw)) (Or.inl (wd80 hw)) (by decide) (t := .int) (t' := (.object "com/example/horatius/horatius/core/NodeKind")) (by decide) (by decide)))
  have F376 := F336.other W372 (Or.inr (RoadKit.slot_ne (Or.inr (wd71 hw)) (Or.inl (wd80 hw)) (by decide) (t := (.object "com/example/horatius/horatius/core/PageSummary")) (t' := (.object "com/example/horatius/horatius/core/NodeKind")) (by decide) (by decide)))
  have F377 := F337.other W372 (Or.inr (RoadKit.slot_ne (Or.inr (wd73 hw)) (Or.inl (wd80 hw)) (by decide) (t := .int) (t' := (.object "com/example/horatius/horatius/core/NodeKind")) (by decide) (by decide)))
  have F378 := F338.other W372 (Or.inr (RoadKit.slot_ne (Or.inr (wd98 hw)) (Or.inl (wd80 hw)) (by decide) (t := (.array .byte)) (t' := (.object "com/example/horatius/horatius/core/NodeKind")) (by decide) (by decide)))
  have F379 := F339.other W372 (Or.inr (RoadKit.slot_ne (Or.inr (wd100 hw)) (Or.inl (wd80 hw)) (by decide) (t := (.array .int)) (t' := (.object "com/example/horatius/horatius/core/NodeKind")) (by decide) (by decide)))
  have F380 := F340.other W372 (Or.inr (RoadKit.slot_ne (Or.inr (wd102 hw)) (Or.inl (wd80 hw)) (by decide) (t := (.array .int)) (t' := (.object "com/example/horatius/horatius/core/NodeKind")) (by decide) (by decide)))
  have F381 := F341.other W372 (Or.inr (RoadKit.slot_ne (Or.inr (wd104 hw)) (Or.inl (wd80 hw)) (by decide) (t := (.array .int)) (t' := (.object "com/example/horatius/horatius/core/NodeKind")) (by decide) (by decide)))
  have F382 := F342.other W372 (Or.inr (RoadKit.slot_ne (Or.inr (wd106 hw)) (Or.inl (wd80 hw)) (by decide) (t := (.array .int)) (t' := (.object "com/example/horatius/horatius/core/NodeKind")) (by decide) (by decide)))
  have F383 := F343.other W372 (Or.inr (RoadKit.slot_ne (Or.inr (wd63 hw)) (Or.inl (wd80 hw)) (by decide) (t := (.object "com/example/horatius/horatius/core/PageSummary")) (t' := (.object "com/example/horatius/horatius/core/NodeKind")) (by decide) (by decide)))
  have F384 := F344.other W372 (Or.inr (RoadKit.slot_ne (Or.inl (wd121 hw)) (Or.inl (wd80 hw)) (by decide) (t := .int) (t' := (.object "com/example/horatius/horatius/core/NodeKind")) (by decide) (by decide)))
  have F385 := F345.same W372
  have F386 := F346.other W372 (Or.inr (RoadKit.slot_ne (Or.inl (wd87 hw)) (Or.inl (wd80 hw)) (by decide) (t := .int) (t' := (.object "com/example/horatius/horatius/core/NodeKind")) (by decide) (by decide)))
  have F387 := F347.other W372 (Or.inr (RoadKit.slot_ne (Or.inl (wd90 hw)) (Or.inl (wd80 hw)) (by decide) (t := .int) (t' := (.object "com/example/horatius/horatius/core/NodeKind")) (by decide) (by decide)))
  have F388 := F348.other W372 (Or.inr (RoadKit.slot_ne (Or.inl (wd65 hw)) (Or.inl (wd80 hw)) (by decide) (t := (.array .int)) (t' := (.object "com/example/horatius/horatius/core/NodeKind")) (by decide) (by decide)))
  have F389 := F349.other W372 (Or.inr (RoadKit.slot_ne (Or.inl (wd123 hw)) (Or.inl (wd80 hw)) (by decide) (t := .int) (t' := (.object "com/example/horatius/horatius/core/NodeKind")) (by decide) (by decide)))
  have F390 := F350.other W372 (Or.inr (RoadKit.slot_ne (Or.inl (wd208 hw)) (Or.inl (wd80 hw)) (by decide) (t := (.array .int)) (t' := (.object "com/example/horatius/horatius/core/NodeKind")) (by decide) (by decide)))
  have F391 := F351.other W372 (Or.inr (RoadKit.slot_ne (Or.inl (wd210 hw)) (Or.inl (wd80 hw)) (by decide) (t := (.array .int)) (t' := (.object "com/example/horatius/horatius/core/NodeKind")) (by decide) (by decide)))
  have F392 := F352.other W372 (Or.inr (RoadKit.slot_ne (Or.inl (wd142 hw)) (Or.inl (wd80 hw)) (by decide) (t := .boolean) (t' := (.object "com/example/horatius/horatius/core/NodeKind")) (by decide) (by decide)))
  have F393 := F353.other W372 (Or.inr (RoadKit.slot_ne (Or.inr (wd67 hw)) (Or.inl (wd80 hw)) (by decide) (t := .int) (t' := (.object "com/example/horatius/horatius/core/NodeKind")) (by decide) (by decide)))
  have E394 := E354.wr W372
  have E395 := E355.wr W372
  have F396 := F356.other W372 (Or.inl hsp)
  have F397 := F357.other W372 (Or.inl hbp)
  have F398 := F358.other W372 (Or.inl hbp)
  have S399 := S359.wr W372
  have E400 := E360.wr W372
  have F401 := F361.other W372 (Or.inl (Nat.ne_of_gt lt_pg_a2))
  have F402 := F362.other W372 (Or.inl (Nat.ne_of_gt lt_pg_a2))
  have F403 := F363.other W372 (Or.inl (Nat.ne_of_gt lt_pg_a2))
  have F404 := F364.other W372 (Or.inl (Nat.ne_of_gt lt_pg_a2))
  have F405 := F365.other W372 (Or.inl (Nat.ne_of_gt lt_pg_a2))
  have F406 := F366.other W372 (Or.inl (Nat.ne_of_gt lt_pg_a2))
  have F407 := F367.other W372 (Or.inl (Nat.ne_of_gt lt_pg_a2))
  have F408 := F368.other W372 (Or.inl (Nat.ne_of_gt lt_pg_a2))
  have I409 := I369.other W372 (Nat.ne_of_gt lt_pg_c46)
  have I410 := I370.other W372 (Nat.ne_of_gt lt_pg_a128)
  refine K.aloadN dOI_62 rfl rfl ?_
  refine K.aload dOI_63 rfl rfl ?_
  refine K.ifnonnull_ref dOI_65 ?_
  refine K.aload dOI_72 rfl rfl ?_
  refine K.callV (a := be) [] [.ref pg] 1 3 24 dOI_74 (wd81 hw) (wd82 hw) (wd84 hw) (wd83 hw) (wd9 hw) (wd85 hw) (by decide) (rmGD l Z a0 hw be lv h371 n0 F398) E395 rfl (lenOf pd_4 rfl) rfl (Nat.le_of_eq rfl) (by decide) (by decide) rfl rfl (by decide) (by decide) (goP ?_)
  refine K.putF dOI_77 (wd86 hw) F386 E374 (Or.inl (wd87 hw)) (wd52 hw) (ty := .int) (by decide) rfl rfl gpg (fun h411 W412 => ?_)
  have K413 := K373.wr W412 (Or.inl (List.mem_of_getElem? (i := 0) rfl))
  have E414 := E374.wr W412
  have F415 := F375.other W412 (Or.inr (RoadKit.slot_ne (Or.inr (wd69 hw)) (Or.inl (wd87 hw)) (by decide) (t := .int) (t' := .int) (by decide) (by decide)))
  have F416 := F376.other W412 (Or.inr (RoadKit.slot_ne (Or.inr (wd71 hw)) (Or.inl (wd87 hw)) (by decide) (t := (.object "com/example/horatius/horatius/core/PageSummary")) (t' := .int) (by decide) (by decide)))
  have F417 := F377.other W412 (Or.inr (RoadKit.slot_ne (Or.inr (wd73 hw)) (Or.inl (wd87 hw)) (by decide) (t := .int) (t' := .int) (by decide) (by decide)))
  have F418 := F378.other W412 (Or.inr (RoadKit.slot_ne (Or.inr (wd98 hw)) (Or.inl (wd87 hw)) (by decide) (t := (.array .byte)) (t' := .int) (by decide) (by decide)))
  have F419 := F379.other W412 (Or.inr (RoadKit.slot_ne (Or.inr (wd100 hw)) (Or.inl (wd87 hw)) (by decide) (t := (.array .int)) (t' := .int) (by decide) (by decide)))
  have F420 := F380.other W412 (Or.inr (RoadKit.slot_ne (Or.inr (wd102 hw)) (Or.inl (wd87 hw)) (by decide) (t := (.array .int)) (t' := .int) (by decide) (by decide)))
  have F421 := F381.other W412 (Or.inr (RoadKit.slot_ne (Or.inr (wd104 hw)) (Or.inl (wd87 hw)) (by decide) (t := (.array .int)) (t' := .int) (by decide) (by decide)))
  have F422 := F382.other W412 (Or.inr (RoadKit.slot_ne (Or.inr (wd106 hw)) (Or.inl (wd87 hw)) (by decide) (t := (.array .int)) (t' := .int) (by decide) (by decide)))
  have F423 := F383.other W412 (Or.inr (RoadKit.slot_ne (Or.inr (wd63 hw)) (Or.inl (wd87 hw)) (by decide) (t := (.object "com/example/horatius/horatius/core/PageSummary")) (t' := .int) (by decide) (by decide)))
  have F424 := F384.other W412 (Or.inr (RoadKit.slot_ne (Or.inl (wd121 hw)) (Or.inl (wd87 hw)) (by decide) (t := .int) (t' := .int) (by decide) (by decide)))
  have F425 := F385.other W412 (Or.inr (RoadKit.slot_ne (Or.inl (wd80 hw)) (Or.inl (wd87 hw)) (by decide) (t := (.object "com/example/horatius/horatius/core/NodeKind")) (t' := .int) (by decide) (by decide)))
  have F426 := F386.same W412
  have F427 := F387.other W412 (Or.inr (RoadKit.slot_ne (Or.inl (wd90 hw)) (Or.inl (wd87 hw)) (by decide) (t := .int) (t' := .int) (by decide) (by decide)))
  have F428 := F388.other W412 (Or.inr (RoadKit.slot_ne (Or.inl (wd65 hw)) (Or.inl (wd87 hw)) (by decide) (t := (.array .int)) (t' := .int) (by decide) (by decide)))
  have F429 := F389.other W412 (Or.inr (RoadKit.slot_ne (Or.inl (wd123 hw)) (Or.inl (wd87 hw)) (by decide) (t := .int) (t' := .int) (by decide) (by decide)))
  have F430 := F390.other W412 (Or.inr (RoadKit.slot_ne (Or.inl (wd208 hw)) (Or.inl (wd87 hw)) (by decide) (t := (.array .int)) (t' := .int) (by decide) (by decide)))
  have F431 := F391.other W412 (Or.inr (RoadKit.slot_ne (Or.inl (wd210 hw)) (Or.inl (wd87 hw)) (by decide) (t := (.array .int)) (t' := .int) (by decide) (by decide)))
  have F432 := F392.other W412 (Or.inr (RoadKit.slot_ne (Or.inl (wd142 hw)) (Or.inl (wd87 hw)) (by decide) (t := .boolean) (t' := .int) (by decide) (by decide)))
  have F433 := F393.other W412 (Or.inr (RoadKit.slot_ne (Or.inr (wd67 hw)) (Or.inl (wd87 hw)) (by decide) (t := .int) (t' := .int) (by decide) (by decide)))
  have E434 := E394.wr W412
  have E435 := E395.wr W412
  have F436 := F396.other W412 (Or.inl hsp)
  have F437 := F397.other W412 (Or.inl hbp)
  have F438 := F398.other W412 (Or.inl hbp)
  have S439 := S399.wr W412
  have E440 := E400.wr W412
  have F441 := F401.other W412 (Or.inl (Nat.ne_of_gt lt_pg_a2))
  have F442 := F402.other W412 (Or.inl (Nat.ne_of_gt lt_pg_a2))
  have F443 := F403.other W412 (Or.inl (Nat.ne_of_gt lt_pg_a2))
  have F444 := F404.other W412 (Or.inl (Nat.ne_of_gt lt_pg_a2))
  have F445 := F405.other W412 (Or.inl (Nat.ne_of_gt lt_pg_a2))
  have F446 := F406.other W412 (Or.inl (Nat.ne_of_gt lt_pg_a2))
  have F447 := F407.other W412 (Or.inl (Nat.ne_of_gt lt_pg_a2))
  have F448 := F408.other W412 (Or.inl (Nat.ne_of_gt lt_pg_a2))
  have I449 := I409.other W412 (Nat.ne_of_gt lt_pg_c46)
  have I450 := I410.other W412 (Nat.ne_of_gt lt_pg_a128)
  refine K.aloadN dOI_80 rfl rfl ?_
  refine K.getF dOI_81 (wd79 hw) F425 ?_
  refine K.getS dOI_84 (wd88 hw) S439 ?_
  refine K.ac_eq dOI_87 (fun _ => ?_) (fun u => absurd rfl u)
  refine K.iconst (1 : Int32) dOI_100 rfl ?_
  refine K.goto dOI_101 ?_
  refine K.istore #[.val (.ref pg), .val (.int (1 : Int32)), .val (.int st), .val (.ref su), .val (.ref be), .val (.int (1 : Int32)), .val (.int (1 : Int32)), .unset] dOI_105 rfl ?_
  refine K.aloadN dOI_107 rfl rfl ?_
  refine K.aload dOI_108 rfl rfl ?_
  refine K.ifnonnull_ref dOI_110 ?_
  refine K.aloadN dOI_117 rfl rfl ?_
  refine K.getF dOI_118 (wd86 hw) F426 ?_
  refine K.iload dOI_121 rfl ?_
  refine K.if_eq dOI_123 (fun u => absurd u (by decide)) (fun _ => ?_)
  refine K.iconst (1 : Int32) dOI_126 rfl ?_
  refine K.goto dOI_127 ?_
  refine K.iadd dOI_131 ?_
  refine K.putF dOI_132 (wd89 hw) F427 E414 (Or.inl (wd90 hw)) (wd52 hw) (ty := .int) (by decide) rfl rfl gpg (fun h451 W452 => ?_)
  have K453 := K413.wr W452 (Or.inl (List.mem_of_getElem? (i := 0) rfl))
  have E454 := E414.wr W452
  have F455 := F415.other W452 (Or.inr (RoadKit.slot_ne (Or.inr (wd69 hw)) (Or.inl (wd90 hw)) (by decide) (t := .int) (t' := .int) (by decide) (by decide)))
  have F456 := F416.other W452 (Or.inr (RoadKit.slot_ne (Or.inr (wd71 hw)) (Or.inl (wd90 hw)) (by decide) (t := (.object "com/example/horatius/horatius/core/PageSummary")) (t' := .int) (by decide) (by decide)))
  have F457 := F417.other W452 (Or.inr (RoadKit.slot_ne (Or.inr (wd73 hw)) (Or.inl (wd90 hw)) (by decide) (t := .int) (t' := .int) (by decide) (by decide)))
  have F458 := F418.other W452 (Or.inr (RoadKit.slot_ne (Or.inr (wd98 hw)) (Or.inl (wd90 hw)) (by decide) (t := (.array .byte)) (t' := .int) (by decide) (by decide)))
  have F459 := F419.other W452 (Or.inr (RoadKit.slot_ne (Or.inr (wd100 hw)) (Or.inl (wd90 hw)) (by decide) (t := (.array .int)) (t' := .int) (by decide) (by decide)))
  have F460 := F420.other W452 (Or.inr (RoadKit.slot_ne (Or.inr (wd102 hw)) (Or.inl (wd90 hw)) (by decide) (t := (.array .int)) (t' := .int) (by decide) (by decide)))
  have F461 := F421.other W452 (Or.inr (RoadKit.slot_ne (Or.inr (wd104 hw)) (Or.inl (wd90 hw)) (by decide) (t := (.array .int)) (t' := .int) (by decide) (by decide)))
  have F462 := F422.other W452 (Or.inr (RoadKit.slot_ne (Or.inr (wd106 hw)) (Or.inl (wd90 hw)) (by decide) (t := (.array .int)) (t' := .int) (by decide) (by decide)))
  have F463 := F423.other W452 (Or.inr (RoadKit.slot_ne (Or.inr (wd63 hw)) (Or.inl (wd90 hw)) (by decide) (t := (.object "com/example/horatius/horatius/core/PageSummary")) (t' := .int) (by decide) (by decide)))
  have F464 := F424.other W452 (Or.inr (RoadKit.slot_ne (Or.inl (wd121 hw)) (Or.inl (wd90 hw)) (by decide) (t := .int) (t' := .int) (by decide) (by decide)))
  have F465 := F425.other W452 (Or.inr (RoadKit.slot_ne (Or.inl (wd80 hw)) (Or.inl (wd90 hw)) (by decide) (t := (.object "com/example/horatius/horatius/core/NodeKind")) (t' := .int) (by decide) (by decide)))
  have F466 := F426.other W452 (Or.inr (RoadKit.slot_ne (Or.inl (wd87 hw)) (Or.inl (wd90 hw)) (by decide) (t := .int) (t' := .int) (by decide) (by decide)))
  have F467 := F427.same W452
  have F468 := F428.other W452 (Or.inr (RoadKit.slot_ne (Or.inl (wd65 hw)) (Or.inl (wd90 hw)) (by decide) (t := (.array .int)) (t' := .int) (by decide) (by decide)))
  have F469 := F429.other W452 (Or.inr (RoadKit.slot_ne (Or.inl (wd123 hw)) (Or.inl (wd90 hw)) (by decide) (t := .int) (t' := .int) (by decide) (by decide)))
  have F470 := F430.other W452 (Or.inr (RoadKit.slot_ne (Or.inl (wd208 hw)) (Or.inl (wd90 hw)) (by decide) (t := (.array .int)) (t' := .int) (by decide) (by decide)))
  have F471 := F431.other W452 (Or.inr (RoadKit.slot_ne (Or.inl (wd210 hw)) (Or.inl (wd90 hw)) (by decide) (t := (.array .int)) (t' := .int) (by decide) (by decide)))
  have F472 := F432.other W452 (Or.inr (RoadKit.slot_ne (Or.inl (wd142 hw)) (Or.inl (wd90 hw)) (by decide) (t := .boolean) (t' := .int) (by decide) (by decide)))
  have F473 := F433.other W452 (Or.inr (RoadKit.slot_ne (Or.inr (wd67 hw)) (Or.inl (wd90 hw)) (by decide) (t := .int) (t' := .int) (by decide) (by decide)))
  have E474 := E434.wr W452
  have E475 := E435.wr W452
  have F476 := F436.other W452 (Or.inl hsp)
  have F477 := F437.other W452 (Or.inl hbp)
  have F478 := F438.other W452 (Or.inl hbp)
  have S479 := S439.wr W452
  have E480 := E440.wr W452
  have F481 := F441.other W452 (Or.inl (Nat.ne_of_gt lt_pg_a2))
  have F482 := F442.other W452 (Or.inl (Nat.ne_of_gt lt_pg_a2))
  have F483 := F443.other W452 (Or.inl (Nat.ne_of_gt lt_pg_a2))
  have F484 := F444.other W452 (Or.inl (Nat.ne_of_gt lt_pg_a2))
  have F485 := F445.other W452 (Or.inl (Nat.ne_of_gt lt_pg_a2))
  have F486 := F446.other W452 (Or.inl (Nat.ne_of_gt lt_pg_a2))
  have F487 := F447.other W452 (Or.inl (Nat.ne_of_gt lt_pg_a2))
  have F488 := F448.other W452 (Or.inl (Nat.ne_of_gt lt_pg_a2))
  have I489 := I449.other W452 (Nat.ne_of_gt lt_pg_c46)
  have I490 := I450.other W452 (Nat.ne_of_gt lt_pg_a128)
  refine K.aloadN dOI_135 rfl rfl ?_
  refine K.callV (a := su) [] [] 0 3 24 dOI_136 (wd91 hw) (wd92 hw) (wd94 hw) (wd93 hw) (wd9 hw) (wd95 hw) (by decide) (rmGN l Z a0 hw su (Int32.ofNat n) h451 n0 F476) E474 rfl (lenOf pd_4 rfl) rfl (Nat.le_of_eq rfl) (by decide) (by decide) rfl rfl (by decide) (by decide) (goP ?_)
  refine K.istore #[.val (.ref pg), .val (.int (1 : Int32)), .val (.int st), .val (.ref su), .val (.ref be), .val (.int (1 : Int32)), .val (.int (1 : Int32)), .val (.int (Int32.ofNat n))] dOI_139 rfl ?_
  refine K.aloadN dOI_141 rfl rfl ?_
  refine K.iload dOI_142 rfl ?_
  refine K.newP (ty := .byte) (dv := .int 0) 4 4 28 dOI_144 (wd96 hw) rfl rfl (own_nn (by omega)) (by rw [clamp_of rfl (by omega)]; exact hn) (by decide) rfl rfl (by decide) (by decide) (fun h492 a491 ha493 g494 X495 A496 => ?_)
  have ks_a491 := ha_ge K453.1 ha493
  have lt_a128_a491 : a128 < a491 := by rw [ha493]; exact I490.lt
  have lt_a2_a491 : a2 < a491 := by rw [ha493]; exact E480.lt
  have lt_be_a491 : be < a491 := by rw [ha493]; exact E475.lt
  have lt_c46_a491 : c46 < a491 := by rw [ha493]; exact I489.lt
  have lt_pg_a491 : pg < a491 := by rw [ha493]; exact E454.lt
  have lt_su_a491 : su < a491 := by rw [ha493]; exact E474.lt
  have K497 := K453.ext X495
  have E498 := E454.ext X495
  have F499 := F455.ext X495
  have F500 := F456.ext X495
  have F501 := F457.ext X495
  have F502 := F458.ext X495
  have F503 := F459.ext X495
  have F504 := F460.ext X495
  have F505 := F461.ext X495
  have F506 := F462.ext X495
  have F507 := F463.ext X495
  have F508 := F464.ext X495
  have F509 := F465.ext X495
  have F510 := F466.ext X495
  have F511 := F467.ext X495
  have F512 := F468.ext X495
  have F513 := F469.ext X495
  have F514 := F470.ext X495
  have F515 := F471.ext X495
  have F516 := F472.ext X495
  have F517 := F473.ext X495
  have E518 := E474.ext X495
  have E519 := E475.ext X495
  have F520 := F476.ext X495
  have F521 := F477.ext X495
  have F522 := F478.ext X495
  have S523 := S479.ext X495
  have E524 := E480.ext X495
  have F525 := F481.ext X495
  have F526 := F482.ext X495
  have F527 := F483.ext X495
  have F528 := F484.ext X495
  have F529 := F485.ext X495
  have F530 := F486.ext X495
  have F531 := F487.ext X495
  have F532 := F488.ext X495
  have I533 := I489.ext X495
  have I534 := I490.ext X495
  refine K.putF dOI_146 (wd97 hw) F502 E498 (Or.inr ⟨(wd98 hw), rfl, rfl⟩) (wd52 hw) (ty := (.array .byte)) (by decide) rfl rfl gpg (fun h535 W536 => ?_)
  have K537 := K497.wr W536 (Or.inl (List.mem_of_getElem? (i := 0) rfl))
  have E538 := E498.wr W536
  have F539 := F499.other W536 (Or.inr (RoadKit.slot_ne (Or.inr (wd69 hw)) (Or.inr (wd98 hw)) (by decide) (t := .int) (t' := (.array .byte)) (by decide) (by decide)))
  have F540 := F500.other W536 (Or.inr (RoadKit.slot_ne (Or.inr (wd71 hw)) (Or.inr (wd98 hw)) (by decide) (t := (.object "com/example/horatius/horatius/core/PageSummary")) (t' := (.array .byte)) (by decide) (by decide)))
  have F541 := F501.other W536 (Or.inr (RoadKit.slot_ne (Or.inr (wd73 hw)) (Or.inr (wd98 hw)) (by decide) (t := .int) (t' := (.array .byte)) (by decide) (by decide)))
  have F542 := F502.same W536
  have F543 := F503.other W536 (Or.inr (RoadKit.slot_ne (Or.inr (wd100 hw)) (Or.inr (wd98 hw)) (by decide) (t := (.array .int)) (t' := (.array .byte)) (by decide) (by decide)))
  have F544 := F504.other W536 (Or.inr (RoadKit.slot_ne (Or.inr (wd102 hw)) (Or.inr (wd98 hw)) (by decide) (t := (.array .int)) (t' := (.array .byte)) (by decide) (by decide)))
  have F545 := F505.other W536 (Or.inr (RoadKit.slot_ne (Or.inr (wd104 hw)) (Or.inr (wd98 hw)) (by decide) (t := (.array .int)) (t' := (.array .byte)) (by decide) (by decide)))
  have F546 := F506.other W536 (Or.inr (RoadKit.slot_ne (Or.inr (wd106 hw)) (Or.inr (wd98 hw)) (by decide) (t := (.array .int)) (t' := (.array .byte)) (by decide) (by decide)))
  have F547 := F507.other W536 (Or.inr (RoadKit.slot_ne (Or.inr (wd63 hw)) (Or.inr (wd98 hw)) (by decide) (t := (.object "com/example/horatius/horatius/core/PageSummary")) (t' := (.array .byte)) (by decide) (by decide)))
  have F548 := F508.other W536 (Or.inr (RoadKit.slot_ne (Or.inl (wd121 hw)) (Or.inr (wd98 hw)) (by decide) (t := .int) (t' := (.array .byte)) (by decide) (by decide)))
  have F549 := F509.other W536 (Or.inr (RoadKit.slot_ne (Or.inl (wd80 hw)) (Or.inr (wd98 hw)) (by decide) (t := (.object "com/example/horatius/horatius/core/NodeKind")) (t' := (.array .byte)) (by decide) (by decide)))
  have F550 := F510.other W536 (Or.inr (RoadKit.slot_ne (Or.inl (wd87 hw)) (Or.inr (wd98 hw)) (by decide) (t := .int) (t' := (.array .byte)) (by decide) (by decide)))
  have F551 := F511.other W536 (Or.inr (RoadKit.slot_ne (Or.inl (wd90 hw)) (Or.inr (wd98 hw)) (by decide) (t := .int) (t' := (.array .byte)) (by decide) (by decide)))
  have F552 := F512.other W536 (Or.inr (RoadKit.slot_ne (Or.inl (wd65 hw)) (Or.inr (wd98 hw)) (by decide) (t := (.array .int)) (t' := (.array .byte)) (by decide) (by decide)))
  have F553 := F513.other W536 (Or.inr (RoadKit.slot_ne (Or.inl (wd123 hw)) (Or.inr (wd98 hw)) (by decide) (t := .int) (t' := (.array .byte)) (by decide) (by decide)))
  have F554 := F514.other W536 (Or.inr (RoadKit.slot_ne (Or.inl (wd208 hw)) (Or.inr (wd98 hw)) (by decide) (t := (.array .int)) (t' := (.array .byte)) (by decide) (by decide)))
  have F555 := F515.other W536 (Or.inr (RoadKit.slot_ne (Or.inl (wd210 hw)) (Or.inr (wd98 hw)) (by decide) (t := (.array .int)) (t' := (.array .byte)) (by decide) (by decide)))
  have F556 := F516.other W536 (Or.inr (RoadKit.slot_ne (Or.inl (wd142 hw)) (Or.inr (wd98 hw)) (by decide) (t := .boolean) (t' := (.array .byte)) (by decide) (by decide)))
  have F557 := F517.other W536 (Or.inr (RoadKit.slot_ne (Or.inr (wd67 hw)) (Or.inr (wd98 hw)) (by decide) (t := .int) (t' := (.array .byte)) (by decide) (by decide)))
  have E558 := E518.wr W536
  have E559 := E519.wr W536
  have F560 := F520.other W536 (Or.inl hsp)
  have F561 := F521.other W536 (Or.inl hbp)
  have F562 := F522.other W536 (Or.inl hbp)
  have S563 := S523.wr W536
  have E564 := E524.wr W536
  have F565 := F525.other W536 (Or.inl (Nat.ne_of_gt lt_pg_a2))
  have F566 := F526.other W536 (Or.inl (Nat.ne_of_gt lt_pg_a2))
  have F567 := F527.other W536 (Or.inl (Nat.ne_of_gt lt_pg_a2))
  have F568 := F528.other W536 (Or.inl (Nat.ne_of_gt lt_pg_a2))
  have F569 := F529.other W536 (Or.inl (Nat.ne_of_gt lt_pg_a2))
  have F570 := F530.other W536 (Or.inl (Nat.ne_of_gt lt_pg_a2))
  have F571 := F531.other W536 (Or.inl (Nat.ne_of_gt lt_pg_a2))
  have F572 := F532.other W536 (Or.inl (Nat.ne_of_gt lt_pg_a2))
  have I573 := I533.other W536 (Nat.ne_of_gt lt_pg_c46)
  have I574 := I534.other W536 (Nat.ne_of_gt lt_pg_a128)
  have I575 := A496.other W536 (Nat.ne_of_gt lt_pg_a491)
  refine K.aloadN dOI_149 rfl rfl ?_
  refine K.iload dOI_150 rfl ?_
  refine K.newP (ty := .int) (dv := .int 0) 4 5 32 dOI_152 (wd13 hw) rfl rfl (own_nn (by omega)) (by rw [clamp_of rfl (by omega)]; exact hn) (by decide) rfl rfl (by decide) (by decide) (fun h577 a576 ha578 g579 X580 A581 => ?_)
  have ks_a576 := ha_ge K537.1 ha578
  have lt_a128_a576 : a128 < a576 := by rw [ha578]; exact I574.lt
  have lt_a2_a576 : a2 < a576 := by rw [ha578]; exact E564.lt
  have lt_a491_a576 : a491 < a576 := by rw [ha578]; exact I575.lt
  have lt_be_a576 : be < a576 := by rw [ha578]; exact E559.lt
  have lt_c46_a576 : c46 < a576 := by rw [ha578]; exact I573.lt
  have lt_pg_a576 : pg < a576 := by rw [ha578]; exact E538.lt
  have lt_su_a576 : su < a576 := by rw [ha578]; exact E558.lt
  have K582 := K537.ext X580
  have E583 := E538.ext X580
  have F584 := F539.ext X580
  have F585 := F540.ext X580
  have F586 := F541.ext X580
  have F587 := F542.ext X580
  have F588 := F543.ext X580
  have F589 := F544.ext X580
  have F590 := F545.ext X580
  have F591 := F546.ext X580
  have F592 := F547.ext X580
  have F593 := F548.ext X580
  have F594 := F549.ext X580
  have F595 := F550.ext X580
  have F596 := F551.ext X580
  have F597 := F552.ext X580
  have F598 := F553.ext X580
  have F599 := F554.ext X580
  have F600 := F555.ext X580
  have F601 := F556.ext X580
  have F602 := F557.ext X580
  have E603 := E558.ext X580
  have E604 := E559.ext X580
  have F605 := F560.ext X580
  have F606 := F561.ext X580
  have F607 := F562.ext X580
  have S608 := S563.ext X580
  have E609 := E564.ext X580
  have F610 := F565.ext X580
  have F611 := F566.ext X580
  have F612 := F567.ext X580
  have F613 := F568.ext X580
  have F614 := F569.ext X580
  have F615 := F570.ext X580
  have F616 := F571.ext X580
  have F617 := F572.ext X580
  have I618 := I573.ext X580
  have I619 := I574.ext X580
  have I620 := I575.ext X580
  refine K.putF dOI_154 (wd99 hw) F588 E583 (Or.inr ⟨(wd100 hw), rfl, rfl⟩) (wd52 hw) (ty := (.array .int)) (by decide) rfl rfl gpg (fun h621 W622 => ?_)
  have K623 := K582.wr W622 (Or.inl (List.mem_of_getElem? (i := 0) rfl))
  have E624 := E583.wr W622
  have F625 := F584.other W622 (Or.inr (RoadKit.slot_ne (Or.inr (wd69 hw)) (Or.inr (wd100 hw)) (by decide) (t := .int) (t' := (.array .int)) (by decide) (by decide)))
  have F626 := F585.other W622 (Or.inr (RoadKit.slot_ne (Or.inr (wd71 hw)) (Or.inr (wd100 hw)) (by decide) (t := (.object "com/example/horatius/horatius/core/PageSummary")) (t' := (.array .int)) (by decide) (by decide)))
  have F627 := F586.other W622 (Or.inr (RoadKit.slot_ne (Or.inr (wd73 hw)) (Or.inr (wd100 hw)) (by decide) (t := .int) (t' := (.array .int)) (by decide) (by decide)))
  have F628 := F587.other W622 (Or.inr (RoadKit.slot_ne (Or.inr (wd98 hw)) (Or.inr (wd100 hw)) (by decide) (t := (.array .byte)) (t' := (.array .int)) (by decide) (by decide)))
  have F629 := F588.same W622
  have F630 := F589.other W622 (Or.inr (RoadKit.slot_ne (Or.inr (wd102 hw)) (Or.inr (wd100 hw)) (by decide) (t := (.array .int)) (t' := (.array .int)) (by decide) (by decide)))
  have F631 := F590.other W622 (Or.inr (RoadKit.slot_ne (Or.inr (wd104 hw)) (Or.inr (wd100 hw)) (by decide) (t := (.array .int)) (t' := (.array .int)) (by decide) (by decide)))
  have F632 := F591.other W622 (Or.inr (RoadKit.slot_ne (Or.inr (wd106 hw)) (Or.inr (wd100 hw)) (by decide) (t := (.array .int)) (t' := (.array .int)) (by decide) (by decide)))
  have F633 := F592.other W622 (Or.inr (RoadKit.slot_ne (Or.inr (wd63 hw)) (Or.inr (wd100 hw)) (by decide) (t := (.object "com/example/horatius/horatius/core/PageSummary")) (t' := (.array .int)) (by decide) (by decide)))
  have F634 := F593.other W622 (Or.inr (RoadKit.slot_ne (Or.inl (wd121 hw)) (Or.inr (wd100 hw)) (by decide) (t := .int) (t' := (.array .int)) (by decide) (by decide)))
  have F635 := F594.other W622 (Or.inr (RoadKit.slot_ne (Or.inl (wd80 hw)) (Or.inr (wd100 hw)) (by decide) (t := (.object "com/example/horatius/horatius/core/NodeKind")) (t' := (.array .int)) (by decide) (by decide)))
  have F636 := F595.other W622 (Or.inr (RoadKit.slot_ne (Or.inl (wd87 hw)) (Or.inr (wd100 hw)) (by decide) (t := .int) (t' := (.array .int)) (by decide) (by decide)))
  have F637 := F596.other W622 (Or.inr (RoadKit.slot_ne (Or.inl (wd90 hw)) (Or.inr (wd100 hw)) (by decide) (t := .int) (t' := (.array .int)) (by decide) (by decide)))
  have F638 := F597.other W622 (Or.inr (RoadKit.slot_ne (Or.inl (wd65 hw)) (Or.inr (wd100 hw)) (by decide) (t := (.array .int)) (t' := (.array .int)) (by decide) (by decide)))
  have F639 := F598.other W622 (Or.inr (RoadKit.slot_ne (Or.inl (wd123 hw)) (Or.inr (wd100 hw)) (by decide) (t := .int) (t' := (.array .int)) (by decide) (by decide)))
  have F640 := F599.other W622 (Or.inr (RoadKit.slot_ne (Or.inl (wd208 hw)) (Or.inr (wd100 hw)) (by decide) (t := (.array .int)) (t' := (.array .int)) (by decide) (by decide)))
  have F641 := F600.other W622 (Or.inr (RoadKit.slot_ne (Or.inl (wd210 hw)) (Or.inr (wd100 hw)) (by decide) (t := (.array .int)) (t' := (.array .int)) (by decide) (by decide)))
  have F642 := F601.other W622 (Or.inr (RoadKit.slot_ne (Or.inl (wd142 hw)) (Or.inr (wd100 hw)) (by decide) (t := .boolean) (t' := (.array .int)) (by decide) (by decide)))
  have F643 := F602.other W622 (Or.inr (RoadKit.slot_ne (Or.inr (wd67 hw)) (Or.inr (wd100 hw)) (by decide) (t := .int) (t' := (.array .int)) (by decide) (by decide)))
  have E644 := E603.wr W622
  have E645 := E604.wr W622
  have F646 := F605.other W622 (Or.inl hsp)
  have F647 := F606.other W622 (Or.inl hbp)
  have F648 := F607.other W622 (Or.inl hbp)
  have S649 := S608.wr W622
  have E650 := E609.wr W622
  have F651 := F610.other W622 (Or.inl (Nat.ne_of_gt lt_pg_a2))
  have F652 := F611.other W622 (Or.inl (Nat.ne_of_gt lt_pg_a2))
  have F653 := F612.other W622 (Or.inl (Nat.ne_of_gt lt_pg_a2))
  have F654 := F613.other W622 (Or.inl (Nat.ne_of_gt lt_pg_a2))
  have F655 := F614.other W622 (Or.inl (Nat.ne_of_gt lt_pg_a2))
  have F656 := F615.other W622 (Or.inl (Nat.ne_of_gt lt_pg_a2))
  have F657 := F616.other W622 (Or.inl (Nat.ne_of_gt lt_pg_a2))
  have F658 := F617.other W622 (Or.inl (Nat.ne_of_gt lt_pg_a2))
  have I659 := I618.other W622 (Nat.ne_of_gt lt_pg_c46)
  have I660 := I619.other W622 (Nat.ne_of_gt lt_pg_a128)
  have I661 := I620.other W622 (Nat.ne_of_gt lt_pg_a491)
  have I662 := A581.other W622 (Nat.ne_of_gt lt_pg_a576)
  refine K.aloadN dOI_157 rfl rfl ?_
  refine K.iload dOI_158 rfl ?_
  refine K.newP (ty := .int) (dv := .int 0) 4 6 36 dOI_160 (wd13 hw) rfl rfl (own_nn (by omega)) (by rw [clamp_of rfl (by omega)]; exact hn) (by decide) rfl rfl (by decide) (by decide) (fun h664 a663 ha665 g666 X667 A668 => ?_)
  have ks_a663 := ha_ge K623.1 ha665
  have lt_a128_a663 : a128 < a663 := by rw [ha665]; exact I660.lt
  have lt_a2_a663 : a2 < a663 := by rw [ha665]; exact E650.lt
  have lt_a491_a663 : a491 < a663 := by rw [ha665]; exact I661.lt
  have lt_a576_a663 : a576 < a663 := by rw [ha665]; exact I662.lt
  have lt_be_a663 : be < a663 := by rw [ha665]; exact E645.lt
  have lt_c46_a663 : c46 < a663 := by rw [ha665]; exact I659.lt
  have lt_pg_a663 : pg < a663 := by rw [ha665]; exact E624.lt
  have lt_su_a663 : su < a663 := by rw [ha665]; exact E644.lt
  have K669 := K623.ext X667
  have E670 := E624.ext X667
  have F671 := F625.ext X667
  have F672 := F626.ext X667
  have F673 := F627.ext X667
  have F674 := F628.ext X667
  have F675 := F629.ext X667
  have F676 := F630.ext X667
  have F677 := F631.ext X667
  have F678 := F632.ext X667
  have F679 := F633.ext X667
  have F680 := F634.ext X667
  have F681 := F635.ext X667
  have F682 := F636.ext X667
  have F683 := F637.ext X667
  have F684 := F638.ext X667
  have F685 := F639.ext X667
  have F686 := F640.ext X667
  have F687 := F641.ext X667
  have F688 := F642.ext X667
  have F689 := F643.ext X667
  have E690 := E644.ext X667
  have E691 := E645.ext X667
  have F692 := F646.ext X667
  have F693 := F647.ext X667
  have F694 := F648.ext X667
  have S695 := S649.ext X667
  have E696 := E650.ext X667
  have F697 := F651.ext X667
  have F698 := F652.ext X667
  have F699 := F653.ext X667
  have F700 := F654.ext X667
  have F701 := F655.ext X667
  have F702 := F656.ext X667
  have F703 := F657.ext X667
  have F704 := F658.ext X667
  have I705 := I659.ext X667
  have I706 := I660.ext X667
  have I707 := I661.ext X667
  have I708 := I662.ext X667
  refine K.putF dOI_162 (wd101 hw) F676 E670 (Or.inr ⟨(wd102 hw), rfl, rfl⟩) (wd52 hw) (ty := (.array .int)) (by decide) rfl rfl gpg (fun h709 W710 => ?_)
  have K711 := K669.wr W710 (Or.inl (List.mem_of_getElem? (i := 0) rfl))
  have E712 := E670.wr W710
  have F713 := F671.other W710 (Or.inr (RoadKit.slot_ne (Or.inr (wd69 hw)) (Or.inr (wd102 hw)) (by decide) (t := .int) (t' := (.array .int)) (by decide) (by decide)))
  have F714 := F672.other W710 (Or.inr (RoadKit.slot_ne (Or.inr (wd71 hw)) (Or.inr (wd102 hw)) (by decide) (t := (.object "com/example/horatius/horatius/core/PageSummary")) (t' := (.array .int)) (by decide) (by decide)))
  have F715 := F673.other W710 (Or.inr (RoadKit.slot_ne (Or.inr (wd73 hw)) (Or.inr (wd102 hw)) (by decide) (t := .int) (t' := (.array .int)) (by decide) (by decide)))
  have F716 := F674.other W710 (Or.inr (RoadKit.slot_ne (Or.inr (wd98 hw)) (Or.inr (wd102 hw)) (by decide) (t := (.array .byte)) (t' := (.array .int)) (by decide) (by decide)))
  have F717 := F675.other W710 (Or.inr (RoadKit.slot_ne (Or.inr (wd100 hw)) (Or.inr (wd102 hw)) (by decide) (t := (.array .int)) (t' := (.array .int)) (by decide) (by decide)))
  have F718 := F676.same W710
  have F719 := F677.other W710 (Or.inr (RoadKit.slot_ne (Or.inr (wd104 hw)) (Or.inr (wd102 hw)) (by decide) (t := (.array .int)) (t' := (.array .int)) (by decide) (by decide)))
  have F720 := F678.other W710 (Or.inr (RoadKit.slot_ne (Or.inr (wd106 hw)) (Or.inr (wd102 hw)) (by decide) (t := (.array .int)) (t' := (.array .int)) (by decide) (by decide)))
  have F721 := F679.other W710 (Or.inr (RoadKit.slot_ne (Or.inr (wd63 hw)) (Or.inr (wd102 hw)) (by decide) (t := (.object "com/example/horatius/horatius/core/PageSummary")) (t' := (.array .int)) (by decide) (by decide)))
  have F722 := F680.other W710 (Or.inr (RoadKit.slot_ne (Or.inl (wd121 hw)) (Or.inr (wd102 hw)) (by decide) (t := .int) (t' := (.array .int)) (by decide) (by decide)))
  have F723 := F681.other W710 (Or.inr (RoadKit.slot_ne (Or.inl (wd80 hw)) (Or.inr (wd102 hw)) (by decide) (t := (.object "com/example/horatius/horatius/core/NodeKind")) (t' := (.array .int)) (by decide) (by decide)))
  have F724 := F682.other W710 (Or.inr (RoadKit.slot_ne (Or.inl (wd87 hw)) (Or.inr (wd102 hw)) (by decide) (t := .int) (t' := (.array .int)) (by decide) (by decide)))
  have F725 := F683.other W710 (Or.inr (RoadKit.slot_ne (Or.inl (wd90 hw)) (Or.inr (wd102 hw)) (by decide) (t := .int) (t' := (.array .int)) (by decide) (by decide)))
  have F726 := F684.other W710 (Or.inr (RoadKit.slot_ne (Or.inl (wd65 hw)) (Or.inr (wd102 hw)) (by decide) (t := (.array .int)) (t' := (.array .int)) (by decide) (by decide)))
  have F727 := F685.other W710 (Or.inr (RoadKit.slot_ne (Or.inl (wd123 hw)) (Or.inr (wd102 hw)) (by decide) (t := .int) (t' := (.array .int)) (by decide) (by decide)))
  have F728 := F686.other W710 (Or.inr (RoadKit.slot_ne (Or.inl (wd208 hw)) (Or.inr (wd102 hw)) (by decide) (t := (.array .int)) (t' := (.array .int)) (by decide) (by decide)))
  have F729 := F687.other W710 (Or.inr (RoadKit.slot_ne (Or.inl (wd210 hw)) (Or.inr (wd102 hw)) (by decide) (t := (.array .int)) (t' := (.array .int)) (by decide) (by decide)))
  have F730 := F688.other W710 (Or.inr (RoadKit.slot_ne (Or.inl (wd142 hw)) (Or.inr (wd102 hw)) (by decide) (t := .boolean) (t' := (.array .int)) (by decide) (by decide)))
  have F731 := F689.other W710 (Or.inr (RoadKit.slot_ne (Or.inr (wd67 hw)) (Or.inr (wd102 hw)) (by decide) (t := .int) (t' := (.array .int)) (by decide) (by decide)))
  have E732 := E690.wr W710
  have E733 := E691.wr W710
  have F734 := F692.other W710 (Or.inl hsp)
  have F735 := F693.other W710 (Or.inl hbp)
  have F736 := F694.other W710 (Or.inl hbp)
  have S737 := S695.wr W710
  have E738 := E696.wr W710
  have F739 := F697.other W710 (Or.inl (Nat.ne_of_gt lt_pg_a2))
  have F740 := F698.other W710 (Or.inl (Nat.ne_of_gt lt_pg_a2))
  have F741 := F699.other W710 (Or.inl (Nat.ne_of_gt lt_pg_a2))
  have F742 := F700.other W710 (Or.inl (Nat.ne_of_gt lt_pg_a2))
  have F743 := F701.other W710 (Or.inl (Nat.ne_of_gt lt_pg_a2))
  have F744 := F702.other W710 (Or.inl (Nat.ne_of_gt lt_pg_a2))
  have F745 := F703.other W710 (Or.inl (Nat.ne_of_gt lt_pg_a2))
  have F746 := F704.other W710 (Or.inl (Nat.ne_of_gt lt_pg_a2))
  have I747 := I705.other W710 (Nat.ne_of_gt lt_pg_c46)
  have I748 := I706.other W710 (Nat.ne_of_gt lt_pg_a128)
  have I749 := I707.other W710 (Nat.ne_of_gt lt_pg_a491)
  have I750 := I708.other W710 (Nat.ne_of_gt lt_pg_a576)
  have I751 := A668.other W710 (Nat.ne_of_gt lt_pg_a663)
  refine K.aloadN dOI_165 rfl rfl ?_
  refine K.iload dOI_166 rfl ?_
  refine K.newP (ty := .int) (dv := .int 0) 4 7 40 dOI_168 (wd13 hw) rfl rfl (own_nn (by omega)) (by rw [clamp_of rfl (by omega)]; exact hn) (by decide) rfl rfl (by decide) (by decide) (fun h753 a752 ha754 g755 X756 A757 => ?_)
  have ks_a752 := ha_ge K711.1 ha754
  have lt_a128_a752 : a128 < a752 := by rw [ha754]; exact I748.lt
  have lt_a2_a752 : a2 < a752 := by rw [ha754]; exact E738.lt
  have lt_a491_a752 : a491 < a752 := by rw [ha754]; exact I749.lt
  have lt_a576_a752 : a576 < a752 := by rw [ha754]; exact I750.lt
  have lt_a663_a752 : a663 < a752 := by rw [ha754]; exact I751.lt
  have lt_be_a752 : be < a752 := by rw [ha754]; exact E733.lt
  have lt_c46_a752 : c46 < a752 := by rw [ha754]; exact I747.lt
  have lt_pg_a752 : pg < a752 := by rw [ha754]; exact E712.lt
  have lt_su_a752 : su < a752 := by rw [ha754]; exact E732.lt
  have K758 := K711.ext X756
  have E759 := E712.ext X756
  have F760 := F713.ext X756
  have F761 := F714.ext X756
  have F762 := F715.ext X756
  have F763 := F716.ext X756
  have F764 := F717.ext X756
  have F765 := F718.ext X756
  have F766 := F719.ext X756
  have F767 := F720.ext X756
  have F768 := F721.ext X756
  have F769 := F722.ext X756
  have F770 := F723.ext X756
  have F771 := F724.ext X756
  have F772 := F725.ext X756
  have F773 := F726.ext X756
  have F774 := F727.ext X756
  have F775 := F728.ext X756
  have F776 := F729.ext X756
  have F777 := F730.ext X756
  have F778 := F731.ext X756
  have E779 := E732.ext X756
  have E780 := E733.ext X756
  have F781 := F734.ext X756
  have F782 := F735.ext X756
  have F783 := F736.ext X756
  have S784 := S737.ext X756
  have E785 := E738.ext X756
  have F786 := F739.ext X756
  have F787 := F740.ext X756
  have F788 := F741.ext X756
  have F789 := F742.ext X756
  have F790 := F743.ext X756
  have F791 := F744.ext X756
  have F792 := F745.ext X756
  have F793 := F746.ext X756
  have I794 := I747.ext X756
  have I795 := I748.ext X756
  have I796 := I749.ext X756
  have I797 := I750.ext X756
  have I798 := I751.ext X756
  refine K.putF dOI_170 (wd103 hw) F766 E759 (Or.inr ⟨(wd104 hw), rfl, rfl⟩) (wd52 hw) (ty := (.array .int)) (by decide) rfl rfl gpg (fun h799 W800 => ?_)
  have K801 := K758.wr W800 (Or.inl (List.mem_of_getElem? (i := 0) rfl))
  have E802 := E759.wr W800
  have F803 := F760.other W800 (Or.inr (RoadKit.slot_ne (Or.inr (wd69 hw)) (Or.inr (wd104 hw)) (by decide) (t := .int) (t' := (.array .int)) (by decide) (by decide)))
  have F804 := F761.other W800 (Or.inr (RoadKit.slot_ne (Or.inr (wd71 hw)) (Or.inr (wd104 hw)) (by decide) (t := (.object "com/example/horatius/horatius/core/PageSummary")) (t' := (.array .int)) (by decide) (by decide)))
  have F805 := F762.other W800 (Or.inr (RoadKit.slot_ne (Or.inr (wd73 hw)) (Or.inr (wd104 hw)) (by decide) (t := .int) (t' := (.array .int)) (by decide) (by decide)))
  have F806 := F763.other W800 (Or.inr (RoadKit.slot_ne (Or.inr (wd98 hw)) (Or.inr (wd104 hw)) (by decide) (t := (.array .byte)) (t' := (.array .int)) (by decide) (by decide)))
  have F807 := F764.other W800 (Or.inr (RoadKit.slot_ne (Or.inr (wd100 hw)) (Or.inr (wd104 hw)) (by decide) (t := (.array .int)) (t' := (.array .int)) (by decide) (by decide)))
  have F808 := F765.other W800 (Or.inr (RoadKit.slot_ne (Or.inr (wd102 hw)) (Or.inr (wd104 hw)) (by decide) (t := (.array .int)) (t' := (.array .int)) (by decide) (by decide)))
  have F809 := F766.same W800
  have F810 := F767.other W800 (Or.inr (RoadKit.slot_ne (Or.inr (wd106 hw)) (Or.inr (wd104 hw)) (by decide) (t := (.array .int)) (t' := (.array .int)) (by decide) (by decide)))
  have F811 := F768.other W800 (Or.inr (RoadKit.slot_ne (Or.inr (wd63 hw)) (Or.inr (wd104 hw)) (by decide) (t := (.object "com/example/horatius/horatius/core/PageSummary")) (t' := (.array .int)) (by decide) (by decide)))
  have F812 := F769.other W800 (Or.inr (RoadKit.slot_ne (Or.inl (wd121 hw)) (Or.inr (wd104 hw)) (by decide) (t := .int) (t' := (.array .int)) (by decide) (by decide)))
  have F813 := F770.other W800 (Or.inr (RoadKit.slot_ne (Or.inl (wd80 hw)) (Or.inr (wd104 hw)) (by decide) (t := (.object "com/example/horatius/horatius/core/NodeKind")) (t' := (.array .int)) (by decide) (by decide)))
  have F814 := F771.other W800 (Or.inr (RoadKit.slot_ne (Or.inl (wd87 hw)) (Or.inr (wd104 hw)) (by decide) (t := .int) (t' := (.array .int)) (by decide) (by decide)))
  have F815 := F772.other W800 (Or.inr (RoadKit.slot_ne (Or.inl (wd90 hw)) (Or.inr (wd104 hw)) (by decide) (t := .int) (t' := (.array .int)) (by decide) (by decide)))
  have F816 := F773.other W800 (Or.inr (RoadKit.slot_ne (Or.inl (wd65 hw)) (Or.inr (wd104 hw)) (by decide) (t := (.array .int)) (t' := (.array .int)) (by decide) (by decide)))
  have F817 := F774.other W800 (Or.inr (RoadKit.slot_ne (Or.inl (wd123 hw)) (Or.inr (wd104 hw)) (by decide) (t := .int) (t' := (.array .int)) (by decide) (by decide)))
  have F818 := F775.other W800 (Or.inr (RoadKit.slot_ne (Or.inl (wd208 hw)) (Or.inr (wd104 hw)) (by decide) (t := (.array .int)) (t' := (.array .int)) (by decide) (by decide)))
  have F819 := F776.other W800 (Or.inr (RoadKit.slot_ne (Or.inl (wd210 hw)) (Or.inr (wd104 hw)) (by decide) (t := (.array .int)) (t' := (.array .int)) (by decide) (by decide)))
  have F820 := F777.other W800 (Or.inr (RoadKit.slot_ne (Or.inl (wd142 hw)) (Or.inr (wd104 hw)) (by decide) (t := .boolean) (t' := (.array .int)) (by decide) (by decide)))
  have F821 := F778.other W800 (Or.inr (RoadKit.slot_ne (Or.inr (wd67 hw)) (Or.inr (wd104 hw)) (by decide) (t := .int) (t' := (.array .int)) (by decide) (by decide)))
  have E822 := E779.wr W800
  have E823 := E780.wr W800
  have F824 := F781.other W800 (Or.inl hsp)
  have F825 := F782.other W800 (Or.inl hbp)
  have F826 := F783.other W800 (Or.inl hbp)
  have S827 := S784.wr W800
  have E828 := E785.wr W800
  have F829 := F786.other W800 (Or.inl (Nat.ne_of_gt lt_pg_a2))
  have F830 := F787.other W800 (Or.inl (Nat.ne_of_gt lt_pg_a2))
  have F831 := F788.other W800 (Or.inl (Nat.ne_of_gt lt_pg_a2))
  have F832 := F789.other W800 (Or.inl (Nat.ne_of_gt lt_pg_a2))
  have F833 := F790.other W800 (Or.inl (Nat.ne_of_gt lt_pg_a2))
  have F834 := F791.other W800 (Or.inl (Nat.ne_of_gt lt_pg_a2))
  have F835 := F792.other W800 (Or.inl (Nat.ne_of_gt lt_pg_a2))
  have F836 := F793.other W800 (Or.inl (Nat.ne_of_gt lt_pg_a2))
  have I837 := I794.other W800 (Nat.ne_of_gt lt_pg_c46)
  have I838 := I795.other W800 (Nat.ne_of_gt lt_pg_a128)
  have I839 := I796.other W800 (Nat.ne_of_gt lt_pg_a491)
  have I840 := I797.other W800 (Nat.ne_of_gt lt_pg_a576)
  have I841 := I798.other W800 (Nat.ne_of_gt lt_pg_a663)
  have I842 := A757.other W800 (Nat.ne_of_gt lt_pg_a752)
  refine K.aloadN dOI_173 rfl rfl ?_
  refine K.iload dOI_174 rfl ?_
  refine K.newP (ty := .int) (dv := .int 0) 4 8 44 dOI_176 (wd13 hw) rfl rfl (own_nn (by omega)) (by rw [clamp_of rfl (by omega)]; exact hn) (by decide) rfl rfl (by decide) (by decide) (fun h844 a843 ha845 g846 X847 A848 => ?_)
  have ks_a843 := ha_ge K801.1 ha845
  have lt_a128_a843 : a128 < a843 := by rw [ha845]; exact I838.lt
  have lt_a2_a843 : a2 < a843 := by rw [ha845]; exact E828.lt
  have lt_a491_a843 : a491 < a843 := by rw [ha845]; exact I839.lt
  have lt_a576_a843 : a576 < a843 := by rw [ha845]; exact I840.lt
  have lt_a663_a843 : a663 < a843 := by rw [ha845]; exact I841.lt
  have lt_a752_a843 : a752 < a843 := by rw [ha845]; exact I842.lt
  have lt_be_a843 : be < a843 := by rw [ha845]; exact E823.lt
  have lt_c46_a843 : c46 < a843 := by rw [ha845]; exact I837.lt
  have lt_pg_a843 : pg < a843 := by rw [ha845]; exact E802.lt
  have lt_su_a843 : su < a843 := by rw [ha845]; exact E822.lt
  have K849 := K801.ext X847
  have E850 := E802.ext X847
  have F851 := F803.ext X847
  have F852 := F804.ext X847
  have F853 := F805.ext X847
  have F854 := F806.ext X847
  have F855 := F807.ext X847
  have F856 := F808.ext X847
  have F857 := F809.ext X847
  have F858 := F810.ext X847
  have F859 := F811.ext X847
  have F860 := F812.ext X847
  have F861 := F813.ext X847
  have F862 := F814.ext X847
  have F863 := F815.ext X847
  have F864 := F816.ext X847
  have F865 := F817.ext X847
  have F866 := F818.ext X847
  have F867 := F819.ext X847
  have F868 := F820.ext X847
  have F869 := F821.ext X847
  have E870 := E822.ext X847
  have E871 := E823.ext X847
  have F872 := F824.ext X847
  have F873 := F825.ext X847
  have F874 := F826.ext X847
  have S875 := S827.ext X847
  have E876 := E828.ext X847
  have F877 := F829.ext X847
  have F878 := F830.ext X847
  have F879 := F831.ext X847
  have F880 := F832.ext X847
  have F881 := F833.ext X847
  have F882 := F834.ext X847
  have F883 := F835.ext X847
  have F884 := F836.ext X847
  have I885 := I837.ext X847
  have I886 := I838.ext X847
  have I887 := I839.ext X847
  have I888 := I840.ext X847
  have I889 := I841.ext X847
  have I890 := I842.ext X847
  refine K.putF dOI_178 (wd105 hw) F858 E850 (Or.inr ⟨(wd106 hw), rfl, rfl⟩) (wd52 hw) (ty := (.array .int)) (by decide) rfl rfl gpg (fun h891 W892 => ?_)
  have K893 := K849.wr W892 (Or.inl (List.mem_of_getElem? (i := 0) rfl))
  have E894 := E850.wr W892
  have F895 := F851.other W892 (Or.inr (RoadKit.slot_ne (Or.inr (wd69 hw)) (Or.inr (wd106 hw)) (by decide) (t := .int) (t' := (.array .int)) (by decide) (by decide)))
  have F896 := F852.other W892 (Or.inr (RoadKit.slot_ne (Or.inr (wd71 hw)) (Or.inr (wd106 hw)) (by decide) (t := (.object "com/example/horatius/horatius/core/PageSummary")) (t' := (.array .int)) (by decide) (by decide)))
  have F897 := F853.other W892 (Or.inr (RoadKit.slot_ne (Or.inr (wd73 hw)) (Or.inr (wd106 hw)) (by decide) (t := .int) (t' := (.array .int)) (by decide) (by decide)))
  have F898 := F854.other W892 (Or.inr (RoadKit.slot_ne (Or.inr (wd98 hw)) (Or.inr (wd106 hw)) (by decide) (t := (.array .byte)) (t' := (.array .int)) (by decide) (by decide)))
  have F899 := F855.other W892 (Or.inr (RoadKit.slot_ne (Or.inr (wd100 hw)) (Or.inr (wd106 hw)) (by decide) (t := (.array .int)) (t' := (.array .int)) (by decide) (by decide)))
  have F900 := F856.other W892 (Or.inr (RoadKit.slot_ne (Or.inr (wd102 hw)) (Or.inr (wd106 hw)) (by decide) (t := (.array .int)) (t' := (.array .int)) (by decide) (by decide)))
  have F901 := F857.other W892 (Or.inr (RoadKit.slot_ne (Or.inr (wd104 hw)) (Or.inr (wd106 hw)) (by decide) (t := (.array .int)) (t' := (.array .int)) (by decide) (by decide)))
  have F902 := F858.same W892
  have F903 := F859.other W892 (Or.inr (RoadKit.slot_ne (Or.inr (wd63 hw)) (Or.inr (wd106 hw)) (by decide) (t := (.object "com/example/horatius/horatius/core/PageSummary")) (t' := (.array .int)) (by decide) (by decide)))
  have F904 := F860.other W892 (Or.inr (RoadKit.slot_ne (Or.inl (wd121 hw)) (Or.inr (wd106 hw)) (by decide) (t := .int) (t' := (.array .int)) (by decide) (by decide)))
  have F905 := F861.other W892 (Or.inr (RoadKit.slot_ne (Or.inl (wd80 hw)) (Or.inr (wd106 hw)) (by decide) (t := (.object "com/example/horatius/horatius/core/NodeKind")) (t' := (.array .int)) (by decide) (by decide)))
  have F906 := F862.other W892 (Or.inr (RoadKit.slot_ne (Or.inl (wd87 hw)) (Or.inr (wd106 hw)) (by decide) (t := .int) (t' := (.array .int)) (by decide) (by decide)))
  have F907 := F863.other W892 (Or.inr (RoadKit.slot_ne (Or.inl (wd90 hw)) (Or.inr (wd106 hw)) (by decide) (t := .int) (t' := (.array .int)) (by decide) (by decide)))
  have F908 := F864.other W892 (Or.inr (RoadKit.slot_ne (Or.inl (wd65 hw)) (Or.inr (wd106 hw)) (by decide) (t := (.array .int)) (t' := (.array .int)) (by decide) (by decide)))
  have F909 := F865.other W892 (Or.inr (RoadKit.slot_ne (Or.inl (wd123 hw)) (Or.inr (wd106 hw)) (by decide) (t := .int) (t' := (.array .int)) (by decide) (by decide)))
  have F910 := F866.other W892 (Or.inr (RoadKit.slot_ne (Or.inl (wd208 hw)) (Or.inr (wd106 hw)) (by decide) (t := (.array .int)) (t' := (.array .int)) (by decide) (by decide)))
  have F911 := F867.other W892 (Or.inr (RoadKit.slot_ne (Or.inl (wd210 hw)) (Or.inr (wd106 hw)) (by decide) (t := (.array .int)) (t' := (.array .int)) (by decide) (by decide)))
  have F912 := F868.other W892 (Or.inr (RoadKit.slot_ne (Or.inl (wd142 hw)) (Or.inr (wd106 hw)) (by decide) (t := .boolean) (t' := (.array .int)) (by decide) (by decide)))
  have F913 := F869.other W892 (Or.inr (RoadKit.slot_ne (Or.inr (wd67 hw)) (Or.inr (wd106 hw)) (by decide) (t := .int) (t' := (.array .int)) (by decide) (by decide)))
  have E914 := E870.wr W892
  have E915 := E871.wr W892
  have F916 := F872.other W892 (Or.inl hsp)
  have F917 := F873.other W892 (Or.inl hbp)
  have F918 := F874.other W892 (Or.inl hbp)
  have S919 := S875.wr W892
  have E920 := E876.wr W892
  have F921 := F877.other W892 (Or.inl (Nat.ne_of_gt lt_pg_a2))
  have F922 := F878.other W892 (Or.inl (Nat.ne_of_gt lt_pg_a2))
  have F923 := F879.other W892 (Or.inl (Nat.ne_of_gt lt_pg_a2))
  have F924 := F880.other W892 (Or.inl (Nat.ne_of_gt lt_pg_a2))
  have F925 := F881.other W892 (Or.inl (Nat.ne_of_gt lt_pg_a2))
  have F926 := F882.other W892 (Or.inl (Nat.ne_of_gt lt_pg_a2))
  have F927 := F883.other W892 (Or.inl (Nat.ne_of_gt lt_pg_a2))
  have F928 := F884.other W892 (Or.inl (Nat.ne_of_gt lt_pg_a2))
  have I929 := I885.other W892 (Nat.ne_of_gt lt_pg_c46)
  have I930 := I886.other W892 (Nat.ne_of_gt lt_pg_a128)
  have I931 := I887.other W892 (Nat.ne_of_gt lt_pg_a491)
  have I932 := I888.other W892 (Nat.ne_of_gt lt_pg_a576)
  have I933 := I889.other W892 (Nat.ne_of_gt lt_pg_a663)
  have I934 := I890.other W892 (Nat.ne_of_gt lt_pg_a752)
  have I935 := A848.other W892 (Nat.ne_of_gt lt_pg_a843)
  exact K.ret dOI_181 (by decide) (by decide) ⟨rfl, a491, a576, a663, a752, a843, a2, c46, a128, ⟨lt_pg_a2, lt_a2_c46, lt_c46_a128, lt_a128_a491, lt_a491_a576, lt_a576_a663, lt_a663_a752, lt_a752_a843⟩, K893, E920, ⟨F895, F896, F897, F898, F899, F900, F901, F902, F903, F904, F905, F906, F907, F908, F909, F910, F911, F912⟩, ⟨F921, F922, F923, F924, F925, F926, F927, F928⟩, I929, I930, I931, I932, I933, I934, I935⟩
set_option maxRecDepth 65536 in
set_option maxHeartbeats 40000000 in
theorem rmCO (l : Launch) (Z : State) (a0 : Array Value) (hw : ∀ d ∈ tables_1, d.before a0 Z = true) (a : Addr) (N m : Nat) (g : Nat → Int32) (h : Heap) (n0 : Nat) (PA : Ia Z h a .int (Int32.ofNat N) (intF g)) (hm : m < N) (hN : N ≤ 8) : Con l Z ⟨"java/util/Arrays", "copyOf", "([II)[I"⟩ jdk_65_method_123_code 3 (some (.array .int)) ({ frames := 1, cells := 1, slots := 8, locals := 18 } : Room) #[.ref a, .int (Int32.ofNat m)] h n0 (fun vr h' => ∃ t, vr = some (.ref t) ∧ (Keep h h' [] ∧ h.size ≤ t ∧ n0 ≤ t ∧ Ia Z h' t .int (Int32.ofNat m) (intF g))) := by
  refine Con.of pnCO (fun m_ => efCO m_ a (Int32.ofNat m)) (fun E K => ?_)
  have K1 : Keep h h [] := Keep.refl _ _
  refine K.iloadN dCO_0 rfl ?_
  refine K.aloadN dCO_1 rfl rfl ?_
  refine K.arraylength dCO_2 PA ?_
  refine K.ic_ne dCO_3 (fun u => absurd u (fun q => absurd (own_inj (by omega) (by omega) q) (by omega))) (fun _ => ?_)
  refine K.iloadN dCO_14 rfl ?_
  refine K.newP (ty := .int) (dv := .int 0) 8 1 8 dCO_15 (wd13 hw) rfl rfl (own_nn (by omega)) (by rw [clamp_of rfl (by omega)]; omega) (by decide) rfl rfl (by decide) (by decide) (fun h3 a2 ha4 g5 X6 A7 => ?_)
  have ks_a2 := ha_ge K1.1 ha4
  have lt_a_a2 : a < a2 := by rw [ha4]; exact PA.lt
  have K8 := K1.ext X6
  have I9 := PA.ext X6
  refine K.astoreN #[.val (.ref a), .val (.int (Int32.ofNat m)), .val (.ref a2)] dCO_17 rfl rfl ?_
  refine K.aloadN dCO_18 rfl rfl ?_
  refine K.iconst (0 : Int32) dCO_19 rfl ?_
  refine K.aloadN dCO_20 rfl rfl ?_
  refine K.iconst (0 : Int32) dCO_21 rfl ?_
  refine K.aloadN dCO_22 rfl rfl ?_
  refine K.arraylength dCO_23 I9 ?_
  refine K.iloadN dCO_24 rfl ?_
  refine K.callS [.int (Int32.ofNat N), .int (Int32.ofNat m)] [.int (0 : Int32), .ref a2, .int (0 : Int32), .ref a] 4 1 8 dCO_25 (wd202 hw) (wd4 hw) (wd5 hw) (wd6 hw) (by decide) (rmMN l Z a0 hw (Int32.ofNat N) (Int32.ofNat m) h3 n0) rfl (lenOf pd_5 rfl) rfl (Nat.le_of_eq rfl) (by decide) (by decide) rfl rfl (by decide) (by decide) (goP ?_)
  rw [own_mnN hm (by omega)]
  refine K.copyI 0 dCO_28 (wd203 hw) (wd206 hw) (wd204 hw) (wd205 hw) I9 (intF_int g) A7 zero_int (by omega) (by omega) (by omega) (Nat.le_refl _) g5 rfl (by decide) (Nat.le_of_eq rfl) (by decide) (fun h10 K11 A12 => ?_)
  have K13 := K8.trans K11 (allS (Or.inr ks_a2) all0)
  have I14 := I9.keep K11 (ninS (Nat.ne_of_lt lt_a_a2) nin0)
  refine K.aloadN dCO_31 rfl rfl ?_
  exact K.areturn dCO_32 rfl rfl rfl (by decide) (by decide) ⟨_, rfl, K13, ks_a2, g5, A12.congr (fun j j1 j2 => if_pos (own_below (by omega) j1 j2))⟩
set_option maxRecDepth 65536 in
set_option maxHeartbeats 40000000 in
theorem rmIS (l : Launch) (Z : State) (a0 : Array Value) (hw : ∀ d ∈ tables_1, d.before a0 Z = true) (t : Addr) (m : Nat) (p : Nat → Int32) (h : Heap) (n0 : Nat) (PT : Ia Z h t .int (Int32.ofNat m) (intF p)) (gt : n0 ≤ t) (hm : 1 ≤ m ∧ m ≤ 4) (hp : ∀ i j, i < j → j < m → p j < p i) : Con l Z ⟨"java/util/DualPivotQuicksort", "insertionSort", "([III)V"⟩ jdk_2529_method_6_code 6 none ({ frames := 0, cells := 0, slots := 0, locals := 0 } : Room) #[.ref t, .int (0 : Int32), .int (Int32.ofNat m)] h n0 (fun vr h' => vr = none ∧ (Keep h h' [t] ∧ Ia Z h' t .int (Int32.ofNat m) (intF (fun j => p (m - 1 - j))))) := by
  refine Con.of pnIS (fun m_ => efIS m_ t (0 : Int32) (Int32.ofNat m)) (fun E K => ?_)
  have K1 : Keep h h [t] := Keep.refl _ _
  rcases (show m = 1 ∨ m = 2 ∨ m = 3 ∨ m = 4 by omega) with rfl | rfl | rfl | rfl
  · refine K.iloadN dIS_0 rfl ?_
    refine K.istore #[.val (.ref t), .val (.int (0 : Int32)), .val (.int (Int32.ofNat 1)), .unset, .val (.int (0 : Int32)), .unset] dIS_1 rfl ?_
    refine K.iinc ((1 : Int32)) #[.val (.ref t), .val (.int (0 : Int32)), .val (.int (Int32.ofNat 1)), .unset, .val (.int (1 : Int32)), .unset] dIS_3 rfl rfl rfl ?_
    refine K.iload dIS_6 rfl ?_
    refine K.iloadN dIS_8 rfl ?_
    refine K.ic_ge dIS_9 (fun u => absurd u (by decide)) (fun _ => ?_)
    exact K.ret dIS_67 (by decide) (by decide) ⟨rfl, K1, PT.congr (fun j j1 j2 => by rcases own_four j1 (Int32.lt_of_lt_of_le j2 (by decide)) with rfl | rfl | rfl | rfl <;> first | exact absurd j2 (by decide) | rfl | simp [intF])⟩
  · refine K.iloadN dIS_0 rfl ?_
    refine K.istore #[.val (.ref t), .val (.int (0 : Int32)), .val (.int (Int32.ofNat 2)), .unset, .val (.int (0 : Int32)), .unset] dIS_1 rfl ?_
    refine K.iinc ((1 : Int32)) #[.val (.ref t), .val (.int (0 : Int32)), .val (.int (Int32.ofNat 2)), .unset, .val (.int (1 : Int32)), .unset] dIS_3 rfl rfl rfl ?_
    refine K.iload dIS_6 rfl ?_
    refine K.iloadN dIS_8 rfl ?_
    refine K.ic_ge dIS_9 (fun _ => ?_) (fun u => absurd (by decide) u)
    refine K.aloadN dIS_12 rfl rfl ?_
    refine K.iload dIS_13 rfl ?_
    refine K.dup dIS_15 rfl ?_
    refine K.istoreN #[.val (.ref t), .val (.int (0 : Int32)), .val (.int (Int32.ofNat 2)), .val (.int (1 : Int32)), .val (.int (1 : Int32)), .unset] dIS_16 rfl ?_
    refine K.iaload (v := .int (p 1)) dIS_17 PT (by decide) (by decide) (by first | rfl | simp [intF]) ?_
    refine K.istore #[.val (.ref t), .val (.int (0 : Int32)), .val (.int (Int32.ofNat 2)), .val (.int (1 : Int32)), .val (.int (1 : Int32)), .val (.int (p 1))] dIS_18 rfl ?_
    refine K.iload dIS_20 rfl ?_
    refine K.aloadN dIS_22 rfl rfl ?_
    refine K.iloadN dIS_23 rfl ?_
    refine K.iconst (1 : Int32) dIS_24 rfl ?_
    refine K.isub dIS_25 ?_
    show Wk E h 0 0 26 #[.val (.ref t), .val (.int (0 : Int32)), .val (.int (Int32.ofNat 2)), .val (.int (1 : Int32)), .val (.int (1 : Int32)), .val (.int (p 1))] [.int (0 : Int32), .ref t, .int (p 1)]
    refine K.iaload (v := .int (p 0)) dIS_26 PT (by decide) (by decide) (by first | rfl | simp [intF]) ?_
    refine K.ic_ge dIS_27 (fun _ => ?_) (fun u => absurd (hp 0 1 (by decide) (by decide)) u)
    refine K.iinc ((0 : Int32)) #[.val (.ref t), .val (.int (0 : Int32)), .val (.int (Int32.ofNat 2)), .val (.int (0 : Int32)), .val (.int (1 : Int32)), .val (.int (p 1))] dIS_30 rfl rfl rfl ?_
    refine K.iloadN dIS_33 rfl ?_
    refine K.iloadN dIS_34 rfl ?_
    refine K.ic_lt dIS_35 (fun u => absurd u (by decide)) (fun _ => ?_)
    refine K.iload dIS_38 rfl ?_
    refine K.aloadN dIS_40 rfl rfl ?_
    refine K.iloadN dIS_41 rfl ?_
    refine K.iaload (v := .int (p 0)) dIS_42 PT (by decide) (by decide) (by first | rfl | simp [intF]) ?_
    refine K.ic_ge dIS_43 (fun _ => ?_) (fun u => absurd (hp 0 1 (by decide) (by decide)) u)
    refine K.aloadN dIS_46 rfl rfl ?_
    refine K.iloadN dIS_47 rfl ?_
    refine K.iconst (1 : Int32) dIS_48 rfl ?_
    refine K.iadd dIS_49 ?_
    show Wk E h 0 0 50 #[.val (.ref t), .val (.int (0 : Int32)), .val (.int (Int32.ofNat 2)), .val (.int (0 : Int32)), .val (.int (1 : Int32)), .val (.int (p 1))] [.int (1 : Int32), .ref t]
    refine K.aloadN dIS_50 rfl rfl ?_
    refine K.iloadN dIS_51 rfl ?_
    refine K.iaload (v := .int (p 0)) dIS_52 PT (by decide) (by decide) (by first | rfl | simp [intF]) ?_
    refine K.iastore dIS_53 PT (by decide) (by decide) gt (fun h2 W3 A4 => ?_)
    have K5 := K1.wr W3 (Or.inl (List.mem_of_getElem? (i := 0) rfl))
    refine K.goto dIS_54 ?_
    refine K.iinc ((-1 : Int32)) #[.val (.ref t), .val (.int (0 : Int32)), .val (.int (Int32.ofNat 2)), .val (.int (-1 : Int32)), .val (.int (1 : Int32)), .val (.int (p 1))] dIS_30 rfl rfl rfl ?_
    refine K.iloadN dIS_33 rfl ?_
    refine K.iloadN dIS_34 rfl ?_
    refine K.ic_lt dIS_35 (fun _ => ?_) (fun u => absurd (by decide) u)
    refine K.aloadN dIS_57 rfl rfl ?_
    refine K.iloadN dIS_58 rfl ?_
    refine K.iconst (1 : Int32) dIS_59 rfl ?_
    refine K.iadd dIS_60 ?_
    show Wk E h2 0 0 61 #[.val (.ref t), .val (.int (0 : Int32)), .val (.int (Int32.ofNat 2)), .val (.int (-1 : Int32)), .val (.int (1 : Int32)), .val (.int (p 1))] [.int (0 : Int32), .ref t]
    refine K.iload dIS_61 rfl ?_
    refine K.iastore dIS_63 A4 (by decide) (by decide) gt (fun h6 W7 A8 => ?_)
    have K9 := K5.wr W7 (Or.inl (List.mem_of_getElem? (i := 0) rfl))
    refine K.goto dIS_64 ?_
    refine K.iinc ((2 : Int32)) #[.val (.ref t), .val (.int (0 : Int32)), .val (.int (Int32.ofNat 2)), .val (.int (-1 : Int32)), .val (.int (2 : Int32)), .val (.int (p 1))] dIS_3 rfl rfl rfl ?_
    refine K.iload dIS_6 rfl ?_
    refine K.iloadN dIS_8 rfl ?_
    refine K.ic_ge dIS_9 (fun u => absurd u (by decide)) (fun _ => ?_)
    exact K.ret dIS_67 (by decide) (by decide) ⟨rfl, K9, A8.congr (fun j j1 j2 => by rcases own_four j1 (Int32.lt_of_lt_of_le j2 (by decide)) with rfl | rfl | rfl | rfl <;> first | exact absurd j2 (by decide) | rfl | simp [intF])⟩
  · refine K.iloadN dIS_0 rfl ?_
    refine K.istore #[.val (.ref t), .val (.int (0 : Int32)), .val (.int (Int32.ofNat 3)), .unset, .val (.int (0 : Int32)), .unset] dIS_1 rfl ?_
    refine K.iinc ((1 : Int32)) #[.val (.ref t), .val (.int (0 : Int32)), .val (.int (Int32.ofNat 3)), .unset, .val (.int (1 : Int32)), .unset] dIS_3 rfl rfl rfl ?_
    refine K.iload dIS_6 rfl ?_
    refine K.iloadN dIS_8 rfl ?_
    refine K.ic_ge dIS_9 (fun _ => ?_) (fun u => absurd (by decide) u)
    refine K.aloadN dIS_12 rfl rfl ?_
    refine K.iload dIS_13 rfl ?_
    refine K.dup dIS_15 rfl ?_
    refine K.istoreN #[.val (.ref t), .val (.int (0 : Int32)), .val (.int (Int32.ofNat 3)), .val (.int (1 : Int32)), .val (.int (1 : Int32)), .unset] dIS_16 rfl ?_
    refine K.iaload (v := .int (p 1)) dIS_17 PT (by decide) (by decide) (by first | rfl | simp [intF]) ?_
    refine K.istore #[.val (.ref t), .val (.int (0 : Int32)), .val (.int (Int32.ofNat 3)), .val (.int (1 : Int32)), .val (.int (1 : Int32)), .val (.int (p 1))] dIS_18 rfl ?_
    refine K.iload dIS_20 rfl ?_
    refine K.aloadN dIS_22 rfl rfl ?_
    refine K.iloadN dIS_23 rfl ?_
    refine K.iconst (1 : Int32) dIS_24 rfl ?_
    refine K.isub dIS_25 ?_
    show Wk E h 0 0 26 #[.val (.ref t), .val (.int (0 : Int32)), .val (.int (Int32.ofNat 3)), .val (.int (1 : Int32)), .val (.int (1 : Int32)), .val (.int (p 1))] [.int (0 : Int32), .ref t, .int (p 1)]
    refine K.iaload (v := .int (p 0)) dIS_26 PT (by decide) (by decide) (by first | rfl | simp [intF]) ?_
    refine K.ic_ge dIS_27 (fun _ => ?_) (fun u => absurd (hp 0 1 (by decide) (by decide)) u)
    refine K.iinc ((0 : Int32)) #[.val (.ref t), .val (.int (0 : Int32)), .val (.int (Int32.ofNat 3)), .val (.int (0 : Int32)), .val (.int (1 : Int32)), .val (.int (p 1))] dIS_30 rfl rfl rfl ?_
    refine K.iloadN dIS_33 rfl ?_
    refine K.iloadN dIS_34 rfl ?_
    refine K.ic_lt dIS_35 (fun u => absurd u (by decide)) (fun _ => ?_)
    refine K.iload dIS_38 rfl ?_
    refine K.aloadN dIS_40 rfl rfl ?_
    refine K.iloadN dIS_41 rfl ?_
    refine K.iaload (v := .int (p 0)) dIS_42 PT (by decide) (by decide) (by first | rfl | simp [intF]) ?_
    refine K.ic_ge dIS_43 (fun _ => ?_) (fun u => absurd (hp 0 1 (by decide) (by decide)) u)
    refine K.aloadN dIS_46 rfl rfl ?_
    refine K.iloadN dIS_47 rfl ?_
    refine K.iconst (1 : Int32) dIS_48 rfl ?_
    refine K.iadd dIS_49 ?_
    show Wk E h 0 0 50 #[.val (.ref t), .val (.int (0 : Int32)), .val (.int (Int32.ofNat 3)), .val (.int (0 : Int32)), .val (.int (1 : Int32)), .val (.int (p 1))] [.int (1 : Int32), .ref t]
    refine K.aloadN dIS_50 rfl rfl ?_
    refine K.iloadN dIS_51 rfl ?_
    refine K.iaload (v := .int (p 0)) dIS_52 PT (by decide) (by decide) (by first | rfl | simp [intF]) ?_
    refine K.iastore dIS_53 PT (by decide) (by decide) gt (fun h10 W11 A12 => ?_)
    have K13 := K1.wr W11 (Or.inl (List.mem_of_getElem? (i := 0) rfl))
    refine K.goto dIS_54 ?_
    refine K.iinc ((-1 : Int32)) #[.val (.ref t), .val (.int (0 : Int32)), .val (.int (Int32.ofNat 3)), .val (.int (-1 : Int32)), .val (.int (1 : Int32)), .val (.int (p 1))] dIS_30 rfl rfl rfl ?_
    refine K.iloadN dIS_33 rfl ?_
    refine K.iloadN dIS_34 rfl ?_
    refine K.ic_lt dIS_35 (fun _ => ?_) (fun u => absurd (by decide) u)
    refine K.aloadN dIS_57 rfl rfl ?_
    refine K.iloadN dIS_58 rfl ?_
    refine K.iconst (1 : Int32) dIS_59 rfl ?_
    refine K.iadd dIS_60 ?_
    show Wk E h10 0 0 61 #[.val (.ref t), .val (.int (0 : Int32)), .val (.int (Int32.ofNat 3)), .val (.int (-1 : Int32)), .val (.int (1 : Int32)), .val (.int (p 1))] [.int (0 : Int32), .ref t]
    refine K.iload dIS_61 rfl ?_
    refine K.iastore dIS_63 A12 (by decide) (by decide) gt (fun h14 W15 A16 => ?_)
    have K17 := K13.wr W15 (Or.inl (List.mem_of_getElem? (i := 0) rfl))
    refine K.goto dIS_64 ?_
    refine K.iinc ((2 : Int32)) #[.val (.ref t), .val (.int (0 : Int32)), .val (.int (Int32.ofNat 3)), .val (.int (-1 : Int32)), .val (.int (2 : Int32)), .val (.int (p 1))] dIS_3 rfl rfl rfl ?_
    refine K.iload dIS_6 rfl ?_
    refine K.iloadN dIS_8 rfl ?_
    refine K.ic_ge dIS_9 (fun _ => ?_) (fun u => absurd (by decide) u)
    refine K.aloadN dIS_12 rfl rfl ?_
    refine K.iload dIS_13 rfl ?_
    refine K.dup dIS_15 rfl ?_
    refine K.istoreN #[.val (.ref t), .val (.int (0 : Int32)), .val (.int (Int32.ofNat 3)), .val (.int (2 : Int32)), .val (.int (2 : Int32)), .val (.int (p 1))] dIS_16 rfl ?_
    refine K.iaload (v := .int (p 2)) dIS_17 A16 (by decide) (by decide) (by first | rfl | simp [intF]) ?_
    refine K.istore #[.val (.ref t), .val (.int (0 : Int32)), .val (.int (Int32.ofNat 3)), .val (.int (2 : Int32)), .val (.int (2 : Int32)), .val (.int (p 2))] dIS_18 rfl ?_
    refine K.iload dIS_20 rfl ?_
    refine K.aloadN dIS_22 rfl rfl ?_
    refine K.iloadN dIS_23 rfl ?_
    refine K.iconst (1 : Int32) dIS_24 rfl ?_
    refine K.isub dIS_25 ?_
    show Wk E h14 0 0 26 #[.val (.ref t), .val (.int (0 : Int32)), .val (.int (Int32.ofNat 3)), .val (.int (2 : Int32)), .val (.int (2 : Int32)), .val (.int (p 2))] [.int (1 : Int32), .ref t, .int (p 2)]
    refine K.iaload (v := .int (p 0)) dIS_26 A16 (by decide) (by decide) (by first | rfl | simp [intF]) ?_
    refine K.ic_ge dIS_27 (fun _ => ?_) (fun u => absurd (hp 0 2 (by decide) (by decide)) u)
    refine K.iinc ((1 : Int32)) #[.val (.ref t), .val (.int (0 : Int32)), .val (.int (Int32.ofNat 3)), .val (.int (1 : Int32)), .val (.int (2 : Int32)), .val (.int (p 2))] dIS_30 rfl rfl rfl ?_
    refine K.iloadN dIS_33 rfl ?_
    refine K.iloadN dIS_34 rfl ?_
    refine K.ic_lt dIS_35 (fun u => absurd u (by decide)) (fun _ => ?_)
    refine K.iload dIS_38 rfl ?_
    refine K.aloadN dIS_40 rfl rfl ?_
    refine K.iloadN dIS_41 rfl ?_
    refine K.iaload (v := .int (p 0)) dIS_42 A16 (by decide) (by decide) (by first | rfl | simp [intF]) ?_
    refine K.ic_ge dIS_43 (fun _ => ?_) (fun u => absurd (hp 0 2 (by decide) (by decide)) u)
    refine K.aloadN dIS_46 rfl rfl ?_
    refine K.iloadN dIS_47 rfl ?_
    refine K.iconst (1 : Int32) dIS_48 rfl ?_
    refine K.iadd dIS_49 ?_
    show Wk E h14 0 0 50 #[.val (.ref t), .val (.int (0 : Int32)), .val (.int (Int32.ofNat 3)), .val (.int (1 : Int32)), .val (.int (2 : Int32)), .val (.int (p 2))] [.int (2 : Int32), .ref t]
    refine K.aloadN dIS_50 rfl rfl ?_
    refine K.iloadN dIS_51 rfl ?_
    refine K.iaload (v := .int (p 0)) dIS_52 A16 (by decide) (by decide) (by first | rfl | simp [intF]) ?_
    refine K.iastore dIS_53 A16 (by decide) (by decide) gt (fun h18 W19 A20 => ?_)
    have K21 := K17.wr W19 (Or.inl (List.mem_of_getElem? (i := 0) rfl))
    refine K.goto dIS_54 ?_
    refine K.iinc ((0 : Int32)) #[.val (.ref t), .val (.int (0 : Int32)), .val (.int (Int32.ofNat 3)), .val (.int (0 : Int32)), .val (.int (2 : Int32)), .val (.int (p 2))] dIS_30 rfl rfl rfl ?_
    refine K.iloadN dIS_33 rfl ?_
    refine K.iloadN dIS_34 rfl ?_
    refine K.ic_lt dIS_35 (fun u => absurd u (by decide)) (fun _ => ?_)
    refine K.iload dIS_38 rfl ?_
    refine K.aloadN dIS_40 rfl rfl ?_
    refine K.iloadN dIS_41 rfl ?_
    refine K.iaload (v := .int (p 1)) dIS_42 A20 (by decide) (by decide) (by first | rfl | simp [intF]) ?_
    refine K.ic_ge dIS_43 (fun _ => ?_) (fun u => absurd (hp 1 2 (by decide) (by decide)) u)
    refine K.aloadN dIS_46 rfl rfl ?_
    refine K.iloadN dIS_47 rfl ?_
    refine K.iconst (1 : Int32) dIS_48 rfl ?_
    refine K.iadd dIS_49 ?_
    show Wk E h18 0 0 50 #[.val (.ref t), .val (.int (0 : Int32)), .val (.int (Int32.ofNat 3)), .val (.int (0 : Int32)), .val (.int (2 : Int32)), .val (.int (p 2))] [.int (1 : Int32), .ref t]
    refine K.aloadN dIS_50 rfl rfl ?_
    refine K.iloadN dIS_51 rfl ?_
    refine K.iaload (v := .int (p 1)) dIS_52 A20 (by decide) (by decide) (by first | rfl | simp [intF]) ?_
    refine K.iastore dIS_53 A20 (by decide) (by decide) gt (fun h22 W23 A24 => ?_)
    have K25 := K21.wr W23 (Or.inl (List.mem_of_getElem? (i := 0) rfl))
    refine K.goto dIS_54 ?_
    refine K.iinc ((-1 : Int32)) #[.val (.ref t), .val (.int (0 : Int32)), .val (.int (Int32.ofNat 3)), .val (.int (-1 : Int32)), .val (.int (2 : Int32)), .val (.int (p 2))] dIS_30 rfl rfl rfl ?_
    refine K.iloadN dIS_33 rfl ?_
    refine K.iloadN dIS_34 rfl ?_
    refine K.ic_lt dIS_35 (fun _ => ?_) (fun u => absurd (by decide) u)
    refine K.aloadN dIS_57 rfl rfl ?_
    refine K.iloadN dIS_58 rfl ?_
    refine K.iconst (1 : Int32) dIS_59 rfl ?_
    refine K.iadd dIS_60 ?_
    show Wk E h22 0 0 61 #[.val (.ref t), .val (.int (0 : Int32)), .val (.int (Int32.ofNat 3)), .val (.int (-1 : Int32)), .val (.int (2 : Int32)), .val (.int (p 2))] [.int (0 : Int32), .ref t]
    refine K.iload dIS_61 rfl ?_
    refine K.iastore dIS_63 A24 (by decide) (by decide) gt (fun h26 W27 A28 => ?_)
    have K29 := K25.wr W27 (Or.inl (List.mem_of_getElem? (i := 0) rfl))
    refine K.goto dIS_64 ?_
    refine K.iinc ((3 : Int32)) #[.val (.ref t), .val (.int (0 : Int32)), .val (.int (Int32.ofNat 3)), .val (.int (-1 : Int32)), .val (.int (3 : Int32)), .val (.int (p 2))] dIS_3 rfl rfl rfl ?_
    refine K.iload dIS_6 rfl ?_
    refine K.iloadN dIS_8 rfl ?_
    refine K.ic_ge dIS_9 (fun u => absurd u (by decide)) (fun _ => ?_)
    exact K.ret dIS_67 (by decide) (by decide) ⟨rfl, K29, A28.congr (fun j j1 j2 => by rcases own_four j1 (Int32.lt_of_lt_of_le j2 (by decide)) with rfl | rfl | rfl | rfl <;> first | exact absurd j2 (by decide) | rfl | simp [intF])⟩
  · refine K.iloadN dIS_0 rfl ?_
    refine K.istore #[.val (.ref t), .val (.int (0 : Int32)), .val (.int (Int32.ofNat 4)), .unset, .val (.int (0 : Int32)), .unset] dIS_1 rfl ?_
    refine K.iinc ((1 : Int32)) #[.val (.ref t), .val (.int (0 : Int32)), .val (.int (Int32.ofNat 4)), .unset, .val (.int (1 : Int32)), .unset] dIS_3 rfl rfl rfl ?_
    refine K.iload dIS_6 rfl ?_
    refine K.iloadN dIS_8 rfl ?_
    refine K.ic_ge dIS_9 (fun _ => ?_) (fun u => absurd (by decide) u)
    refine K.aloadN dIS_12 rfl rfl ?_
    refine K.iload dIS_13 rfl ?_
    refine K.dup dIS_15 rfl ?_
    refine K.istoreN #[.val (.ref t), .val (.int (0 : Int32)), .val (.int (Int32.ofNat 4)), .val (.int (1 : Int32)), .val (.int (1 : Int32)), .unset] dIS_16 rfl ?_
    refine K.iaload (v := .int (p 1)) dIS_17 PT (by decide) (by decide) (by first | rfl | simp [intF]) ?_
    refine K.istore #[.val (.ref t), .val (.int (0 : Int32)), .val (.int (Int32.ofNat 4)), .val (.int (1 : Int32)), .val (.int (1 : Int32)), .val (.int (p 1))] dIS_18 rfl ?_
    refine K.iload dIS_20 rfl ?_
    refine K.aloadN dIS_22 rfl rfl ?_
    refine K.iloadN dIS_23 rfl ?_
    refine K.iconst (1 : Int32) dIS_24 rfl ?_
    refine K.isub dIS_25 ?_
    show Wk E h 0 0 26 #[.val (.ref t), .val (.int (0 : Int32)), .val (.int (Int32.ofNat 4)), .val (.int (1 : Int32)), .val (.int (1 : Int32)), .val (.int (p 1))] [.int (0 : Int32), .ref t, .int (p 1)]
    refine K.iaload (v := .int (p 0)) dIS_26 PT (by decide) (by decide) (by first | rfl | simp [intF]) ?_
    refine K.ic_ge dIS_27 (fun _ => ?_) (fun u => absurd (hp 0 1 (by decide) (by decide)) u)
    refine K.iinc ((0 : Int32)) #[.val (.ref t), .val (.int (0 : Int32)), .val (.int (Int32.ofNat 4)), .val (.int (0 : Int32)), .val (.int (1 : Int32)), .val (.int (p 1))] dIS_30 rfl rfl rfl ?_
    refine K.iloadN dIS_33 rfl ?_
    refine K.iloadN dIS_34 rfl ?_
    refine K.ic_lt dIS_35 (fun u => absurd u (by decide)) (fun _ => ?_)
    refine K.iload dIS_38 rfl ?_
    refine K.aloadN dIS_40 rfl rfl ?_
    refine K.iloadN dIS_41 rfl ?_
    refine K.iaload (v := .int (p 0)) dIS_42 PT (by decide) (by decide) (by first | rfl | simp [intF]) ?_
    refine K.ic_ge dIS_43 (fun _ => ?_) (fun u => absurd (hp 0 1 (by decide) (by decide)) u)
    refine K.aloadN dIS_46 rfl rfl ?_
    refine K.iloadN dIS_47 rfl ?_
    refine K.iconst (1 : Int32) dIS_48 rfl ?_
    refine K.iadd dIS_49 ?_
    show Wk E h 0 0 50 #[.val (.ref t), .val (.int (0 : Int32)), .val (.int (Int32.ofNat 4)), .val (.int (0 : Int32)), .val (.int (1 : Int32)), .val (.int (p 1))] [.int (1 : Int32), .ref t]
    refine K.aloadN dIS_50 rfl rfl ?_
    refine K.iloadN dIS_51 rfl ?_
    refine K.iaload (v := .int (p 0)) dIS_52 PT (by decide) (by decide) (by first | rfl | simp [intF]) ?_
    refine K.iastore dIS_53 PT (by decide) (by decide) gt (fun h30 W31 A32 => ?_)
    have K33 := K1.wr W31 (Or.inl (List.mem_of_getElem? (i := 0) rfl))
    refine K.goto dIS_54 ?_
    refine K.iinc ((-1 : Int32)) #[.val (.ref t), .val (.int (0 : Int32)), .val (.int (Int32.ofNat 4)), .val (.int (-1 : Int32)), .val (.int (1 : Int32)), .val (.int (p 1))] dIS_30 rfl rfl rfl ?_
    refine K.iloadN dIS_33 rfl ?_
    refine K.iloadN dIS_34 rfl ?_
    refine K.ic_lt dIS_35 (fun _ => ?_) (fun u => absurd (by decide) u)
    refine K.aloadN dIS_57 rfl rfl ?_
    refine K.iloadN dIS_58 rfl ?_
    refine K.iconst (1 : Int32) dIS_59 rfl ?_
    refine K.iadd dIS_60 ?_
    show Wk E h30 0 0 61 #[.val (.ref t), .val (.int (0 : Int32)), .val (.int (Int32.ofNat 4)), .val (.int (-1 : Int32)), .val (.int (1 : Int32)), .val (.int (p 1))] [.int (0 : Int32), .ref t]
    refine K.iload dIS_61 rfl ?_
    refine K.iastore dIS_63 A32 (by decide) (by decide) gt (fun h34 W35 A36 => ?_)
    have K37 := K33.wr W35 (Or.inl (List.mem_of_getElem? (i := 0) rfl))
    refine K.goto dIS_64 ?_
    refine K.iinc ((2 : Int32)) #[.val (.ref t), .val (.int (0 : Int32)), .val (.int (Int32.ofNat 4)), .val (.int (-1 : Int32)), .val (.int (2 : Int32)), .val (.int (p 1))] dIS_3 rfl rfl rfl ?_
    refine K.iload dIS_6 rfl ?_
    refine K.iloadN dIS_8 rfl ?_
    refine K.ic_ge dIS_9 (fun _ => ?_) (fun u => absurd (by decide) u)
    refine K.aloadN dIS_12 rfl rfl ?_
    refine K.iload dIS_13 rfl ?_
    refine K.dup dIS_15 rfl ?_
    refine K.istoreN #[.val (.ref t), .val (.int (0 : Int32)), .val (.int (Int32.ofNat 4)), .val (.int (2 : Int32)), .val (.int (2 : Int32)), .val (.int (p 1))] dIS_16 rfl ?_
    refine K.iaload (v := .int (p 2)) dIS_17 A36 (by decide) (by decide) (by first | rfl | simp [intF]) ?_
    refine K.istore #[.val (.ref t), .val (.int (0 : Int32)), .val (.int (Int32.ofNat 4)), .val (.int (2 : Int32)), .val (.int (2 : Int32)), .val (.int (p 2))] dIS_18 rfl ?_
    refine K.iload dIS_20 rfl ?_
    refine K.aloadN dIS_22 rfl rfl ?_
    refine K.iloadN dIS_23 rfl ?_
    refine K.iconst (1 : Int32) dIS_24 rfl ?_
    refine K.isub dIS_25 ?_
    show Wk E h34 0 0 26 #[.val (.ref t), .val (.int (0 : Int32)), .val (.int (Int32.ofNat 4)), .val (.int (2 : Int32)), .val (.int (2 : Int32)), .val (.int (p 2))] [.int (1 : Int32), .ref t, .int (p 2)]
    refine K.iaload (v := .int (p 0)) dIS_26 A36 (by decide) (by decide) (by first | rfl | simp [intF]) ?_
    refine K.ic_ge dIS_27 (fun _ => ?_) (fun u => absurd (hp 0 2 (by decide) (by decide)) u)
    refine K.iinc ((1 : Int32)) #[.val (.ref t), .val (.int (0 : Int32)), .val (.int (Int32.ofNat 4)), .val (.int (1 : Int32)), .val (.int (2 : Int32)), .val (.int (p 2))] dIS_30 rfl rfl rfl ?_
    refine K.iloadN dIS_33 rfl ?_
    refine K.iloadN dIS_34 rfl ?_
    refine K.ic_lt dIS_35 (fun u => absurd u (by decide)) (fun _ => ?_)
    refine K.iload dIS_38 rfl ?_
    refine K.aloadN dIS_40 rfl rfl ?_
    refine K.iloadN dIS_41 rfl ?_
    refine K.iaload (v := .int (p 0)) dIS_42 A36 (by decide) (by decide) (by first | rfl | simp [intF]) ?_
    refine K.ic_ge dIS_43 (fun _ => ?_) (fun u => absurd (hp 0 2 (by decide) (by decide)) u)
    refine K.aloadN dIS_46 rfl rfl ?_
    refine K.iloadN dIS_47 rfl ?_
    refine K.iconst (1 : Int32) dIS_48 rfl ?_
    refine K.iadd dIS_49 ?_
    show Wk E h34 0 0 50 #[.val (.ref t), .val (.int (0 : Int32)), .val (.int (Int32.ofNat 4)), .val (.int (1 : Int32)), .val (.int (2 : Int32)), .val (.int (p 2))] [.int (2 : Int32), .ref t]
    refine K.aloadN dIS_50 rfl rfl ?_
    refine K.iloadN dIS_51 rfl ?_
    refine K.iaload (v := .int (p 0)) dIS_52 A36 (by decide) (by decide) (by first | rfl | simp [intF]) ?_
    refine K.iastore dIS_53 A36 (by decide) (by decide) gt (fun h38 W39 A40 => ?_)
    have K41 := K37.wr W39 (Or.inl (List.mem_of_getElem? (i := 0) rfl))
    refine K.goto dIS_54 ?_
    refine K.iinc ((0 : Int32)) #[.val (.ref t), .val (.int (0 : Int32)), .val (.int (Int32.ofNat 4)), .val (.int (0 : Int32)), .val (.int (2 : Int32)), .val (.int (p 2))] dIS_30 rfl rfl rfl ?_
    refine K.iloadN dIS_33 rfl ?_
    refine K.iloadN dIS_34 rfl ?_
    refine K.ic_lt dIS_35 (fun u => absurd u (by decide)) (fun _ => ?_)
    refine K.iload dIS_38 rfl ?_
    refine K.aloadN dIS_40 rfl rfl ?_
    refine K.iloadN dIS_41 rfl ?_
    refine K.iaload (v := .int (p 1)) dIS_42 A40 (by decide) (by decide) (by first | rfl | simp [intF]) ?_
    refine K.ic_ge dIS_43 (fun _ => ?_) (fun u => absurd (hp 1 2 (by decide) (by decide)) u)
    refine K.aloadN dIS_46 rfl rfl ?_
    refine K.iloadN dIS_47 rfl ?_
    refine K.iconst (1 : Int32) dIS_48 rfl ?_
    refine K.iadd dIS_49 ?_
    show Wk E h38 0 0 50 #[.val (.ref t), .val (.int (0 : Int32)), .val (.int (Int32.ofNat 4)), .val (.int (0 : Int32)), .val (.int (2 : Int32)), .val (.int (p 2))] [.int (1 : Int32), .ref t]
    refine K.aloadN dIS_50 rfl rfl ?_
    refine K.iloadN dIS_51 rfl ?_
    refine K.iaload (v := .int (p 1)) dIS_52 A40 (by decide) (by decide) (by first | rfl | simp [intF]) ?_
    refine K.iastore dIS_53 A40 (by decide) (by decide) gt (fun h42 W43 A44 => ?_)
    have K45 := K41.wr W43 (Or.inl (List.mem_of_getElem? (i := 0) rfl))
    refine K.goto dIS_54 ?_
    refine K.iinc ((-1 : Int32)) #[.val (.ref t), .val (.int (0 : Int32)), .val (.int (Int32.ofNat 4)), .val (.int (-1 : Int32)), .val (.int (2 : Int32)), .val (.int (p 2))] dIS_30 rfl rfl rfl ?_
    refine K.iloadN dIS_33 rfl ?_
    refine K.iloadN dIS_34 rfl ?_
    refine K.ic_lt dIS_35 (fun _ => ?_) (fun u => absurd (by decide) u)
    refine K.aloadN dIS_57 rfl rfl ?_
    refine K.iloadN dIS_58 rfl ?_
    refine K.iconst (1 : Int32) dIS_59 rfl ?_
    refine K.iadd dIS_60 ?_
    show Wk E h42 0 0 61 #[.val (.ref t), .val (.int (0 : Int32)), .val (.int (Int32.ofNat 4)), .val (.int (-1 : Int32)), .val (.int (2 : Int32)), .val (.int (p 2))] [.int (0 : Int32), .ref t]
    refine K.iload dIS_61 rfl ?_
    refine K.iastore dIS_63 A44 (by decide) (by decide) gt (fun h46 W47 A48 => ?_)
    have K49 := K45.wr W47 (Or.inl (List.mem_of_getElem? (i := 0) rfl))
    refine K.goto dIS_64 ?_
    refine K.iinc ((3 : Int32)) #[.val (.ref t), .val (.int (0 : Int32)), .val (.int (Int32.ofNat 4)), .val (.int (-1 : Int32)), .val (.int (3 : Int32)), .val (.int (p 2))] dIS_3 rfl rfl rfl ?_
    refine K.iload dIS_6 rfl ?_
    refine K.iloadN dIS_8 rfl ?_
    refine K.ic_ge dIS_9 (fun _ => ?_) (fun u => absurd (by decide) u)
    refine K.aloadN dIS_12 rfl rfl ?_
    refine K.iload dIS_13 rfl ?_
    refine K.dup dIS_15 rfl ?_
    refine K.istoreN #[.val (.ref t), .val (.int (0 : Int32)), .val (.int (Int32.ofNat 4)), .val (.int (3 : Int32)), .val (.int (3 : Int32)), .val (.int (p 2))] dIS_16 rfl ?_
    refine K.iaload (v := .int (p 3)) dIS_17 A48 (by decide) (by decide) (by first | rfl | simp [intF]) ?_
    refine K.istore #[.val (.ref t), .val (.int (0 : Int32)), .val (.int (Int32.ofNat 4)), .val (.int (3 : Int32)), .val (.int (3 : Int32)), .val (.int (p 3))] dIS_18 rfl ?_
    refine K.iload dIS_20 rfl ?_
    refine K.aloadN dIS_22 rfl rfl ?_
    refine K.iloadN dIS_23 rfl ?_
    refine K.iconst (1 : Int32) dIS_24 rfl ?_
    refine K.isub dIS_25 ?_
    show Wk E h46 0 0 26 #[.val (.ref t), .val (.int (0 : Int32)), .val (.int (Int32.ofNat 4)), .val (.int (3 : Int32)), .val (.int (3 : Int32)), .val (.int (p 3))] [.int (2 : Int32), .ref t, .int (p 3)]
    refine K.iaload (v := .int (p 0)) dIS_26 A48 (by decide) (by decide) (by first | rfl | simp [intF]) ?_
    refine K.ic_ge dIS_27 (fun _ => ?_) (fun u => absurd (hp 0 3 (by decide) (by decide)) u)
    refine K.iinc ((2 : Int32)) #[.val (.ref t), .val (.int (0 : Int32)), .val (.int (Int32.ofNat 4)), .val (.int (2 : Int32)), .val (.int (3 : Int32)), .val (.int (p 3))] dIS_30 rfl rfl rfl ?_
    refine K.iloadN dIS_33 rfl ?_
    refine K.iloadN dIS_34 rfl ?_
    refine K.ic_lt dIS_35 (fun u => absurd u (by decide)) (fun _ => ?_)
    refine K.iload dIS_38 rfl ?_
    refine K.aloadN dIS_40 rfl rfl ?_
    refine K.iloadN dIS_41 rfl ?_
    refine K.iaload (v := .int (p 0)) dIS_42 A48 (by decide) (by decide) (by first | rfl | simp [intF]) ?_
    refine K.ic_ge dIS_43 (fun _ => ?_) (fun u => absurd (hp 0 3 (by decide) (by decide)) u)
    refine K.aloadN dIS_46 rfl rfl ?_
    refine K.iloadN dIS_47 rfl ?_
    refine K.iconst (1 : Int32) dIS_48 rfl ?_
    refine K.iadd dIS_49 ?_
    show Wk E h46 0 0 50 #[.val (.ref t), .val (.int (0 : Int32)), .val (.int (Int32.ofNat 4)), .val (.int (2 : Int32)), .val (.int (3 : Int32)), .val (.int (p 3))] [.int (3 : Int32), .ref t]
    refine K.aloadN dIS_50 rfl rfl ?_
    refine K.iloadN dIS_51 rfl ?_
    refine K.iaload (v := .int (p 0)) dIS_52 A48 (by decide) (by decide) (by first | rfl | simp [intF]) ?_
    refine K.iastore dIS_53 A48 (by decide) (by decide) gt (fun h50 W51 A52 => ?_)
    have K53 := K49.wr W51 (Or.inl (List.mem_of_getElem? (i := 0) rfl))
    refine K.goto dIS_54 ?_
    refine K.iinc ((1 : Int32)) #[.val (.ref t), .val (.int (0 : Int32)), .val (.int (Int32.ofNat 4)), .val (.int (1 : Int32)), .val (.int (3 : Int32)), .val (.int (p 3))] dIS_30 rfl rfl rfl ?_
    refine K.iloadN dIS_33 rfl ?_
    refine K.iloadN dIS_34 rfl ?_
    refine K.ic_lt dIS_35 (fun u => absurd u (by decide)) (fun _ => ?_)
    refine K.iload dIS_38 rfl ?_
    refine K.aloadN dIS_40 rfl rfl ?_
    refine K.iloadN dIS_41 rfl ?_
    refine K.iaload (v := .int (p 1)) dIS_42 A52 (by decide) (by decide) (by first | rfl | simp [intF]) ?_
    refine K.ic_ge dIS_43 (fun _ => ?_) (fun u => absurd (hp 1 3 (by decide) (by decide)) u)
    refine K.aloadN dIS_46 rfl rfl ?_
    refine K.iloadN dIS_47 rfl ?_
    refine K.iconst (1 : Int32) dIS_48 rfl ?_
    refine K.iadd dIS_49 ?_
    show Wk E h50 0 0 50 #[.val (.ref t), .val (.int (0 : Int32)), .val (.int (Int32.ofNat 4)), .val (.int (1 : Int32)), .val (.int (3 : Int32)), .val (.int (p 3))] [.int (2 : Int32), .ref t]
    refine K.aloadN dIS_50 rfl rfl ?_
    refine K.iloadN dIS_51 rfl ?_
    refine K.iaload (v := .int (p 1)) dIS_52 A52 (by decide) (by decide) (by first | rfl | simp [intF]) ?_
    refine K.iastore dIS_53 A52 (by decide) (by decide) gt (fun h54 W55 A56 => ?_)
    have K57 := K53.wr W55 (Or.inl (List.mem_of_getElem? (i := 0) rfl))
    refine K.goto dIS_54 ?_
    refine K.iinc ((0 : Int32)) #[.val (.ref t), .val (.int (0 : Int32)), .val (.int (Int32.ofNat 4)), .val (.int (0 : Int32)), .val (.int (3 : Int32)), .val (.int (p 3))] dIS_30 rfl rfl rfl ?_
    refine K.iloadN dIS_33 rfl ?_
    refine K.iloadN dIS_34 rfl ?_
    refine K.ic_lt dIS_35 (fun u => absurd u (by decide)) (fun _ => ?_)
    refine K.iload dIS_38 rfl ?_
    refine K.aloadN dIS_40 rfl rfl ?_
    refine K.iloadN dIS_41 rfl ?_
    refine K.iaload (v := .int (p 2)) dIS_42 A56 (by decide) (by decide) (by first | rfl | simp [intF]) ?_
    refine K.ic_ge dIS_43 (fun _ => ?_) (fun u => absurd (hp 2 3 (by decide) (by decide)) u)
    refine K.aloadN dIS_46 rfl rfl ?_
    refine K.iloadN dIS_47 rfl ?_
    refine K.iconst (1 : Int32) dIS_48 rfl ?_
    refine K.iadd dIS_49 ?_
    show Wk E h54 0 0 50 #[.val (.ref t), .val (.int (0 : Int32)), .val (.int (Int32.ofNat 4)), .val (.int (0 : Int32)), .val (.int (3 : Int32)), .val (.int (p 3))] [.int (1 : Int32), .ref t]
    refine K.aloadN dIS_50 rfl rfl ?_
    refine K.iloadN dIS_51 rfl ?_
    refine K.iaload (v := .int (p 2)) dIS_52 A56 (by decide) (by decide) (by first | rfl | simp [intF]) ?_
    refine K.iastore dIS_53 A56 (by decide) (by decide) gt (fun h58 W59 A60 => ?_)
    have K61 := K57.wr W59 (Or.inl (List.mem_of_getElem? (i := 0) rfl))
    refine K.goto dIS_54 ?_
    refine K.iinc ((-1 : Int32)) #[.val (.ref t), .val (.int (0 : Int32)), .val (.int (Int32.ofNat 4)), .val (.int (-1 : Int32)), .val (.int (3 : Int32)), .val (.int (p 3))] dIS_30 rfl rfl rfl ?_
    refine K.iloadN dIS_33 rfl ?_
    refine K.iloadN dIS_34 rfl ?_
    refine K.ic_lt dIS_35 (fun _ => ?_) (fun u => absurd (by decide) u)
    refine K.aloadN dIS_57 rfl rfl ?_
    refine K.iloadN dIS_58 rfl ?_
    refine K.iconst (1 : Int32) dIS_59 rfl ?_
    refine K.iadd dIS_60 ?_
    show Wk E h58 0 0 61 #[.val (.ref t), .val (.int (0 : Int32)), .val (.int (Int32.ofNat 4)), .val (.int (-1 : Int32)), .val (.int (3 : Int32)), .val (.int (p 3))] [.int (0 : Int32), .ref t]
    refine K.iload dIS_61 rfl ?_
    refine K.iastore dIS_63 A60 (by decide) (by decide) gt (fun h62 W63 A64 => ?_)
    have K65 := K61.wr W63 (Or.inl (List.mem_of_getElem? (i := 0) rfl))
    refine K.goto dIS_64 ?_
    refine K.iinc ((4 : Int32)) #[.val (.ref t), .val (.int (0 : Int32)), .val (.int (Int32.ofNat 4)), .val (.int (-1 : Int32)), .val (.int (4 : Int32)), .val (.int (p 3))] dIS_3 rfl rfl rfl ?_
    refine K.iload dIS_6 rfl ?_
    refine K.iloadN dIS_8 rfl ?_
    refine K.ic_ge dIS_9 (fun u => absurd u (by decide)) (fun _ => ?_)
    exact K.ret dIS_67 (by decide) (by decide) ⟨rfl, K65, A64.congr (fun j j1 j2 => by rcases own_four j1 (Int32.lt_of_lt_of_le j2 (by decide)) with rfl | rfl | rfl | rfl <;> first | exact absurd j2 (by decide) | rfl | simp [intF])⟩
set_option maxRecDepth 65536 in
set_option maxHeartbeats 40000000 in
theorem rmS5 (l : Launch) (Z : State) (a0 : Array Value) (hw : ∀ d ∈ tables_1, d.before a0 Z = true) (t : Addr) (m : Nat) (p : Nat → Int32) (h : Heap) (n0 : Nat) (PT : Ia Z h t .int (Int32.ofNat m) (intF p)) (gt : n0 ≤ t) (hm : 1 ≤ m ∧ m ≤ 4) (hp : ∀ i j, i < j → j < m → p j < p i) : Con l Z ⟨"java/util/DualPivotQuicksort", "sort", "(Ljava/util/DualPivotQuicksort$Sorter;[IIII)V"⟩ jdk_2529_method_4_code 21 none ({ frames := 1, cells := 0, slots := 0, locals := 17 } : Room) #[.null, .ref t, .int (0 : Int32), .int (0 : Int32), .int (Int32.ofNat m)] h n0 (fun vr h' => vr = none ∧ (Keep h h' [t] ∧ Ia Z h' t .int (Int32.ofNat m) (intF (fun j => p (m - 1 - j))))) := by
  refine Con.of pnS5 (fun m_ => efS5 m_ t (0 : Int32) (0 : Int32) (Int32.ofNat m)) (fun E K => ?_)
  have K1 : Keep h h [t] := Keep.refl _ _
  rcases (show m = 1 ∨ m = 2 ∨ m = 3 ∨ m = 4 by omega) with rfl | rfl | rfl | rfl
  · refine K.iload dS5_0 rfl ?_
    refine K.iconst (1 : Int32) dS5_2 rfl ?_
    refine K.isub dS5_3 ?_
    refine K.istore #[.val .null, .val (.ref t), .val (.int (0 : Int32)), .val (.int (0 : Int32)), .val (.int (Int32.ofNat 1)), .val (.int ((Int32.ofNat 1) - (1 : Int32))), .unset, .unset, .unset, .unset, .unset, .unset, .unset, .unset, .unset, .unset, .unset, .unset, .unset, .unset, .unset] dS5_4 rfl ?_
    refine K.iload dS5_6 rfl ?_
    refine K.iloadN dS5_8 rfl ?_
    refine K.isub dS5_9 ?_
    refine K.istore #[.val .null, .val (.ref t), .val (.int (0 : Int32)), .val (.int (0 : Int32)), .val (.int (Int32.ofNat 1)), .val (.int ((Int32.ofNat 1) - (1 : Int32))), .val (.int ((Int32.ofNat 1) - (0 : Int32))), .unset, .unset, .unset, .unset, .unset, .unset, .unset, .unset, .unset, .unset, .unset, .unset, .unset, .unset] dS5_10 rfl ?_
    refine K.iload dS5_12 rfl ?_
    refine K.bipush (65 : Int32) dS5_14 rfl ?_
    refine K.iloadN dS5_16 rfl ?_
    refine K.iadd dS5_17 ?_
    refine K.ic_ge dS5_18 (fun _ => ?_) (fun u => absurd (by decide) u)
    refine K.iloadN dS5_21 rfl ?_
    refine K.iconst (1 : Int32) dS5_22 rfl ?_
    refine K.iand dS5_23 ?_
    refine K.if_le dS5_24 (fun u => absurd u (by decide)) (fun _ => ?_)
    refine K.iload dS5_46 rfl ?_
    refine K.bipush (44 : Int32) dS5_48 rfl ?_
    refine K.ic_ge dS5_50 (fun _ => ?_) (fun u => absurd (by decide) u)
    refine K.aloadN dS5_53 rfl rfl ?_
    refine K.iloadN dS5_54 rfl ?_
    refine K.iload dS5_55 rfl ?_
    refine K.callS [.ref t, .int (0 : Int32), .int (Int32.ofNat 1)] [] 0 0 0 dS5_57 (wd221 hw) (wd222 hw) (wd216 hw) (wd223 hw) (by decide) (rmIS l Z a0 hw t 1 p h n0 PT gt (by omega) hp) rfl (lenOf pd_6 rfl) rfl (Nat.le_of_eq rfl) (by decide) (by decide) rfl rfl (by decide) (by decide) (goU fun h2 q3 => ?_)
    obtain ⟨K4, A5⟩ := q3
    have K6 := K1.trans K4 (allS (Or.inl (List.mem_of_getElem? (i := 0) rfl)) all0)
    exact K.ret dS5_60 (by decide) (by decide) ⟨rfl, K6, A5⟩
  · refine K.iload dS5_0 rfl ?_
    refine K.iconst (1 : Int32) dS5_2 rfl ?_
    refine K.isub dS5_3 ?_
    refine K.istore #[.val .null, .val (.ref t), .val (.int (0 : Int32)), .val (.int (0 : Int32)), .val (.int (Int32.ofNat 2)), .val (.int ((Int32.ofNat 2) - (1 : Int32))), .unset, .unset, .unset, .unset, .unset, .unset, .unset, .unset, .unset, .unset, .unset, .unset, .unset, .unset, .unset] dS5_4 rfl ?_
    refine K.iload dS5_6 rfl ?_
    refine K.iloadN dS5_8 rfl ?_
    refine K.isub dS5_9 ?_
    refine K.istore #[.val .null, .val (.ref t), .val (.int (0 : Int32)), .val (.int (0 : Int32)), .val (.int (Int32.ofNat 2)), .val (.int ((Int32.ofNat 2) - (1 : Int32))), .val (.int ((Int32.ofNat 2) - (0 : Int32))), .unset, .unset, .unset, .unset, .unset, .unset, .unset, .unset, .unset, .unset, .unset, .unset, .unset, .unset] dS5_10 rfl ?_
    refine K.iload dS5_12 rfl ?_
    refine K.bipush (65 : Int32) dS5_14 rfl ?_
    refine K.iloadN dS5_16 rfl ?_
    refine K.iadd dS5_17 ?_
    refine K.ic_ge dS5_18 (fun _ => ?_) (fun u => absurd (by decide) u)
    refine K.iloadN dS5_21 rfl ?_
    refine K.iconst (1 : Int32) dS5_22 rfl ?_
    refine K.iand dS5_23 ?_
    refine K.if_le dS5_24 (fun u => absurd u (by decide)) (fun _ => ?_)
    refine K.iload dS5_46 rfl ?_
    refine K.bipush (44 : Int32) dS5_48 rfl ?_
    refine K.ic_ge dS5_50 (fun _ => ?_) (fun u => absurd (by decide) u)
    refine K.aloadN dS5_53 rfl rfl ?_
    refine K.iloadN dS5_54 rfl ?_
    refine K.iload dS5_55 rfl ?_
    refine K.callS [.ref t, .int (0 : Int32), .int (Int32.ofNat 2)] [] 0 0 0 dS5_57 (wd221 hw) (wd222 hw) (wd216 hw) (wd223 hw) (by decide) (rmIS l Z a0 hw t 2 p h n0 PT gt (by omega) hp) rfl (lenOf pd_6 rfl) rfl (Nat.le_of_eq rfl) (by decide) (by decide) rfl rfl (by decide) (by decide) (goU fun h7 q8 => ?_)
    obtain ⟨K9, A10⟩ := q8
    have K11 := K1.trans K9 (allS (Or.inl (List.mem_of_getElem? (i := 0) rfl)) all0)
    exact K.ret dS5_60 (by decide) (by decide) ⟨rfl, K11, A10⟩
  · refine K.iload dS5_0 rfl ?_
    refine K.iconst (1 : Int32) dS5_2 rfl ?_
    refine K.isub dS5_3 ?_
    refine K.istore #[.val .null, .val (.ref t), .val (.int (0 : Int32)), .val (.int (0 : Int32)), .val (.int (Int32.ofNat 3)), .val (.int ((Int32.ofNat 3) - (1 : Int32))), .unset, .unset, .unset, .unset, .unset, .unset, .unset, .unset, .unset, .unset, .unset, .unset, .unset, .unset, .unset] dS5_4 rfl ?_
    refine K.iload dS5_6 rfl ?_
    refine K.iloadN dS5_8 rfl ?_
    refine K.isub dS5_9 ?_
    refine K.istore #[.val .null, .val (.ref t), .val (.int (0 : Int32)), .val (.int (0 : Int32)), .val (.int (Int32.ofNat 3)), .val (.int ((Int32.ofNat 3) - (1 : Int32))), .val (.int ((Int32.ofNat 3) - (0 : Int32))), .unset, .unset, .unset, .unset, .unset, .unset, .unset, .unset, .unset, .unset, .unset, .unset, .unset, .unset] dS5_10 rfl ?_
    refine K.iload dS5_12 rfl ?_
    refine K.bipush (65 : Int32) dS5_14 rfl ?_
    refine K.iloadN dS5_16 rfl ?_
    refine K.iadd dS5_17 ?_
    refine K.ic_ge dS5_18 (fun _ => ?_) (fun u => absurd (by decide) u)
    refine K.iloadN dS5_21 rfl ?_
    refine K.iconst (1 : Int32) dS5_22 rfl ?_
    refine K.iand dS5_23 ?_
    refine K.if_le dS5_24 (fun u => absurd u (by decide)) (fun _ => ?_)
    refine K.iload dS5_46 rfl ?_
    refine K.bipush (44 : Int32) dS5_48 rfl ?_
    refine K.ic_ge dS5_50 (fun _ => ?_) (fun u => absurd (by decide) u)
    refine K.aloadN dS5_53 rfl rfl ?_
    refine K.iloadN dS5_54 rfl ?_
    refine K.iload dS5_55 rfl ?_
    refine K.callS [.ref t, .int (0 : Int32), .int (Int32.ofNat 3)] [] 0 0 0 dS5_57 (wd221 hw) (wd222 hw) (wd216 hw) (wd223 hw) (by decide) (rmIS l Z a0 hw t 3 p h n0 PT gt (by omega) hp) rfl (lenOf pd_6 rfl) rfl (Nat.le_of_eq rfl) (by decide) (by decide) rfl rfl (by decide) (by decide) (goU fun h12 q13 => ?_)
    obtain ⟨K14, A15⟩ := q13
    have K16 := K1.trans K14 (allS (Or.inl (List.mem_of_getElem? (i := 0) rfl)) all0)
    exact K.ret dS5_60 (by decide) (by decide) ⟨rfl, K16, A15⟩
  · refine K.iload dS5_0 rfl ?_
    refine K.iconst (1 : Int32) dS5_2 rfl ?_
    refine K.isub dS5_3 ?_
    refine K.istore #[.val .null, .val (.ref t), .val (.int (0 : Int32)), .val (.int (0 : Int32)), .val (.int (Int32.ofNat 4)), .val (.int ((Int32.ofNat 4) - (1 : Int32))), .unset, .unset, .unset, .unset, .unset, .unset, .unset, .unset, .unset, .unset, .unset, .unset, .unset, .unset, .unset] dS5_4 rfl ?_
    refine K.iload dS5_6 rfl ?_
    refine K.iloadN dS5_8 rfl ?_
    refine K.isub dS5_9 ?_
    refine K.istore #[.val .null, .val (.ref t), .val (.int (0 : Int32)), .val (.int (0 : Int32)), .val (.int (Int32.ofNat 4)), .val (.int ((Int32.ofNat 4) - (1 : Int32))), .val (.int ((Int32.ofNat 4) - (0 : Int32))), .unset, .unset, .unset, .unset, .unset, .unset, .unset, .unset, .unset, .unset, .unset, .unset, .unset, .unset] dS5_10 rfl ?_
    refine K.iload dS5_12 rfl ?_
    refine K.bipush (65 : Int32) dS5_14 rfl ?_
    refine K.iloadN dS5_16 rfl ?_
    refine K.iadd dS5_17 ?_
    refine K.ic_ge dS5_18 (fun _ => ?_) (fun u => absurd (by decide) u)
    refine K.iloadN dS5_21 rfl ?_
    refine K.iconst (1 : Int32) dS5_22 rfl ?_
    refine K.iand dS5_23 ?_
    refine K.if_le dS5_24 (fun u => absurd u (by decide)) (fun _ => ?_)
    refine K.iload dS5_46 rfl ?_
    refine K.bipush (44 : Int32) dS5_48 rfl ?_
    refine K.ic_ge dS5_50 (fun _ => ?_) (fun u => absurd (by decide) u)
    refine K.aloadN dS5_53 rfl rfl ?_
    refine K.iloadN dS5_54 rfl ?_
    refine K.iload dS5_55 rfl ?_
    refine K.callS [.ref t, .int (0 : Int32), .int (Int32.ofNat 4)] [] 0 0 0 dS5_57 (wd221 hw) (wd222 hw) (wd216 hw) (wd223 hw) (by decide) (rmIS l Z a0 hw t 4 p h n0 PT gt (by omega) hp) rfl (lenOf pd_6 rfl) rfl (Nat.le_of_eq rfl) (by decide) (by decide) rfl rfl (by decide) (by decide) (goU fun h17 q18 => ?_)
    obtain ⟨K19, A20⟩ := q18
    have K21 := K1.trans K19 (allS (Or.inl (List.mem_of_getElem? (i := 0) rfl)) all0)
    exact K.ret dS5_60 (by decide) (by decide) ⟨rfl, K21, A20⟩
set_option maxRecDepth 65536 in
set_option maxHeartbeats 40000000 in
theorem rmS4 (l : Launch) (Z : State) (a0 : Array Value) (hw : ∀ d ∈ tables_1, d.before a0 Z = true) (t : Addr) (m : Nat) (p : Nat → Int32) (h : Heap) (n0 : Nat) (PT : Ia Z h t .int (Int32.ofNat m) (intF p)) (gt : n0 ≤ t) (hm : 1 ≤ m ∧ m ≤ 4) (hp : ∀ i j, i < j → j < m → p j < p i) : Con l Z ⟨"java/util/DualPivotQuicksort", "sort", "([IIII)V"⟩ jdk_2529_method_3_code 7 none ({ frames := 2, cells := 0, slots := 0, locals := 49 } : Room) #[.ref t, .int (0 : Int32), .int (0 : Int32), .int (Int32.ofNat m)] h n0 (fun vr h' => vr = none ∧ (Keep h h' [t] ∧ Ia Z h' t .int (Int32.ofNat m) (intF (fun j => p (m - 1 - j))))) := by
  refine Con.of pnS4 (fun m_ => efS4 m_ t (0 : Int32) (0 : Int32) (Int32.ofNat m)) (fun E K => ?_)
  have K1 : Keep h h [t] := Keep.refl _ _
  rcases (show m = 1 ∨ m = 2 ∨ m = 3 ∨ m = 4 by omega) with rfl | rfl | rfl | rfl
  · refine K.iloadN dS4_0 rfl ?_
    refine K.iloadN dS4_1 rfl ?_
    refine K.isub dS4_2 ?_
    refine K.istore #[.val (.ref t), .val (.int (0 : Int32)), .val (.int (0 : Int32)), .val (.int (Int32.ofNat 1)), .val (.int ((Int32.ofNat 1) - (0 : Int32))), .unset, .unset] dS4_3 rfl ?_
    refine K.iloadN dS4_5 rfl ?_
    refine K.iconst (1 : Int32) dS4_6 rfl ?_
    refine K.ic_le dS4_7 (fun u => absurd u (by decide)) (fun _ => ?_)
    refine K.aconst_null dS4_68 ?_
    refine K.aloadN dS4_69 rfl rfl ?_
    refine K.iconst (0 : Int32) dS4_70 rfl ?_
    refine K.iloadN dS4_71 rfl ?_
    refine K.iloadN dS4_72 rfl ?_
    refine K.callS [.null, .ref t, .int (0 : Int32), .int (0 : Int32), .int (Int32.ofNat 1)] [] 0 0 0 dS4_73 (wd218 hw) (wd219 hw) (wd216 hw) (wd220 hw) (by decide) (rmS5 l Z a0 hw t 1 p h n0 PT gt (by omega) hp) rfl (lenOf pd_7 rfl) rfl (Nat.le_of_eq rfl) (by decide) (by decide) rfl rfl (by decide) (by decide) (goU fun h2 q3 => ?_)
    obtain ⟨K4, A5⟩ := q3
    have K6 := K1.trans K4 (allS (Or.inl (List.mem_of_getElem? (i := 0) rfl)) all0)
    exact K.ret dS4_76 (by decide) (by decide) ⟨rfl, K6, A5⟩
  · refine K.iloadN dS4_0 rfl ?_
    refine K.iloadN dS4_1 rfl ?_
    refine K.isub dS4_2 ?_
    refine K.istore #[.val (.ref t), .val (.int (0 : Int32)), .val (.int (0 : Int32)), .val (.int (Int32.ofNat 2)), .val (.int ((Int32.ofNat 2) - (0 : Int32))), .unset, .unset] dS4_3 rfl ?_
    refine K.iloadN dS4_5 rfl ?_
    refine K.iconst (1 : Int32) dS4_6 rfl ?_
    refine K.ic_le dS4_7 (fun u => absurd u (by decide)) (fun _ => ?_)
    refine K.aconst_null dS4_68 ?_
    refine K.aloadN dS4_69 rfl rfl ?_
    refine K.iconst (0 : Int32) dS4_70 rfl ?_
    refine K.iloadN dS4_71 rfl ?_
    refine K.iloadN dS4_72 rfl ?_
    refine K.callS [.null, .ref t, .int (0 : Int32), .int (0 : Int32), .int (Int32.ofNat 2)] [] 0 0 0 dS4_73 (wd218 hw) (wd219 hw) (wd216 hw) (wd220 hw) (by decide) (rmS5 l Z a0 hw t 2 p h n0 PT gt (by omega) hp) rfl (lenOf pd_7 rfl) rfl (Nat.le_of_eq rfl) (by decide) (by decide) rfl rfl (by decide) (by decide) (goU fun h7 q8 => ?_)
    obtain ⟨K9, A10⟩ := q8
    have K11 := K1.trans K9 (allS (Or.inl (List.mem_of_getElem? (i := 0) rfl)) all0)
    exact K.ret dS4_76 (by decide) (by decide) ⟨rfl, K11, A10⟩
  · refine K.iloadN dS4_0 rfl ?_
    refine K.iloadN dS4_1 rfl ?_
    refine K.isub dS4_2 ?_
    refine K.istore #[.val (.ref t), .val (.int (0 : Int32)), .val (.int (0 : Int32)), .val (.int (Int32.ofNat 3)), .val (.int ((Int32.ofNat 3) - (0 : Int32))), .unset, .unset] dS4_3 rfl ?_
    refine K.iloadN dS4_5 rfl ?_
    refine K.iconst (1 : Int32) dS4_6 rfl ?_
    refine K.ic_le dS4_7 (fun u => absurd u (by decide)) (fun _ => ?_)
    refine K.aconst_null dS4_68 ?_
    refine K.aloadN dS4_69 rfl rfl ?_
    refine K.iconst (0 : Int32) dS4_70 rfl ?_
    refine K.iloadN dS4_71 rfl ?_
    refine K.iloadN dS4_72 rfl ?_
    refine K.callS [.null, .ref t, .int (0 : Int32), .int (0 : Int32), .int (Int32.ofNat 3)] [] 0 0 0 dS4_73 (wd218 hw) (wd219 hw) (wd216 hw) (wd220 hw) (by decide) (rmS5 l Z a0 hw t 3 p h n0 PT gt (by omega) hp) rfl (lenOf pd_7 rfl) rfl (Nat.le_of_eq rfl) (by decide) (by decide) rfl rfl (by decide) (by decide) (goU fun h12 q13 => ?_)
    obtain ⟨K14, A15⟩ := q13
    have K16 := K1.trans K14 (allS (Or.inl (List.mem_of_getElem? (i := 0) rfl)) all0)
    exact K.ret dS4_76 (by decide) (by decide) ⟨rfl, K16, A15⟩
  · refine K.iloadN dS4_0 rfl ?_
    refine K.iloadN dS4_1 rfl ?_
    refine K.isub dS4_2 ?_
    refine K.istore #[.val (.ref t), .val (.int (0 : Int32)), .val (.int (0 : Int32)), .val (.int (Int32.ofNat 4)), .val (.int ((Int32.ofNat 4) - (0 : Int32))), .unset, .unset] dS4_3 rfl ?_
    refine K.iloadN dS4_5 rfl ?_
    refine K.iconst (1 : Int32) dS4_6 rfl ?_
    refine K.ic_le dS4_7 (fun u => absurd u (by decide)) (fun _ => ?_)
    refine K.aconst_null dS4_68 ?_
    refine K.aloadN dS4_69 rfl rfl ?_
    refine K.iconst (0 : Int32) dS4_70 rfl ?_
    refine K.iloadN dS4_71 rfl ?_
    refine K.iloadN dS4_72 rfl ?_
    refine K.callS [.null, .ref t, .int (0 : Int32), .int (0 : Int32), .int (Int32.ofNat 4)] [] 0 0 0 dS4_73 (wd218 hw) (wd219 hw) (wd216 hw) (wd220 hw) (by decide) (rmS5 l Z a0 hw t 4 p h n0 PT gt (by omega) hp) rfl (lenOf pd_7 rfl) rfl (Nat.le_of_eq rfl) (by decide) (by decide) rfl rfl (by decide) (by decide) (goU fun h17 q18 => ?_)
    obtain ⟨K19, A20⟩ := q18
    have K21 := K1.trans K19 (allS (Or.inl (List.mem_of_getElem? (i := 0) rfl)) all0)
    exact K.ret dS4_76 (by decide) (by decide) ⟨rfl, K21, A20⟩
set_option maxRecDepth 65536 in
set_option maxHeartbeats 40000000 in
theorem rmSO (l : Launch) (Z : State) (a0 : Array Value) (hw : ∀ d ∈ tables_1, d.before a0 Z = true) (t : Addr) (m : Nat) (p : Nat → Int32) (h : Heap) (n0 : Nat) (PT : Ia Z h t .int (Int32.ofNat m) (intF p)) (gt : n0 ≤ t) (hm : 1 ≤ m ∧ m ≤ 4) (hp : ∀ i j, i < j → j < m → p j < p i) : Con l Z ⟨"java/util/Arrays", "sort", "([I)V"⟩ jdk_65_method_2_code 1 none ({ frames := 3, cells := 0, slots := 0, locals := 67 } : Room) #[.ref t] h n0 (fun vr h' => vr = none ∧ (Keep h h' [t] ∧ Ia Z h' t .int (Int32.ofNat m) (intF (fun j => p (m - 1 - j))))) := by
  refine Con.of pnSO (fun m_ => efSO m_ t) (fun E K => ?_)
  have K1 : Keep h h [t] := Keep.refl _ _
  rcases (show m = 1 ∨ m = 2 ∨ m = 3 ∨ m = 4 by omega) with rfl | rfl | rfl | rfl
  · refine K.aloadN dSO_0 rfl rfl ?_
    refine K.iconst (0 : Int32) dSO_1 rfl ?_
    refine K.iconst (0 : Int32) dSO_2 rfl ?_
    refine K.aloadN dSO_3 rfl rfl ?_
    refine K.arraylength dSO_4 PT ?_
    refine K.callS [.ref t, .int (0 : Int32), .int (0 : Int32), .int (Int32.ofNat 1)] [] 0 0 0 dSO_5 (wd214 hw) (wd215 hw) (wd216 hw) (wd217 hw) (by decide) (rmS4 l Z a0 hw t 1 p h n0 PT gt (by omega) hp) rfl (lenOf pd_8 rfl) rfl (Nat.le_of_eq rfl) (by decide) (by decide) rfl rfl (by decide) (by decide) (goU fun h2 q3 => ?_)
    obtain ⟨K4, A5⟩ := q3
    have K6 := K1.trans K4 (allS (Or.inl (List.mem_of_getElem? (i := 0) rfl)) all0)
    exact K.ret dSO_8 (by decide) (by decide) ⟨rfl, K6, A5⟩
  · refine K.aloadN dSO_0 rfl rfl ?_
    refine K.iconst (0 : Int32) dSO_1 rfl ?_
    refine K.iconst (0 : Int32) dSO_2 rfl ?_
    refine K.aloadN dSO_3 rfl rfl ?_
    refine K.arraylength dSO_4 PT ?_
    refine K.callS [.ref t, .int (0 : Int32), .int (0 : Int32), .int (Int32.ofNat 2)] [] 0 0 0 dSO_5 (wd214 hw) (wd215 hw) (wd216 hw) (wd217 hw) (by decide) (rmS4 l Z a0 hw t 2 p h n0 PT gt (by omega) hp) rfl (lenOf pd_8 rfl) rfl (Nat.le_of_eq rfl) (by decide) (by decide) rfl rfl (by decide) (by decide) (goU fun h7 q8 => ?_)
    obtain ⟨K9, A10⟩ := q8
    have K11 := K1.trans K9 (allS (Or.inl (List.mem_of_getElem? (i := 0) rfl)) all0)
    exact K.ret dSO_8 (by decide) (by decide) ⟨rfl, K11, A10⟩
  · refine K.aloadN dSO_0 rfl rfl ?_
    refine K.iconst (0 : Int32) dSO_1 rfl ?_
    refine K.iconst (0 : Int32) dSO_2 rfl ?_
    refine K.aloadN dSO_3 rfl rfl ?_
    refine K.arraylength dSO_4 PT ?_
    refine K.callS [.ref t, .int (0 : Int32), .int (0 : Int32), .int (Int32.ofNat 3)] [] 0 0 0 dSO_5 (wd214 hw) (wd215 hw) (wd216 hw) (wd217 hw) (by decide) (rmS4 l Z a0 hw t 3 p h n0 PT gt (by omega) hp) rfl (lenOf pd_8 rfl) rfl (Nat.le_of_eq rfl) (by decide) (by decide) rfl rfl (by decide) (by decide) (goU fun h12 q13 => ?_)
    obtain ⟨K14, A15⟩ := q13
    have K16 := K1.trans K14 (allS (Or.inl (List.mem_of_getElem? (i := 0) rfl)) all0)
    exact K.ret dSO_8 (by decide) (by decide) ⟨rfl, K16, A15⟩
  · refine K.aloadN dSO_0 rfl rfl ?_
    refine K.iconst (0 : Int32) dSO_1 rfl ?_
    refine K.iconst (0 : Int32) dSO_2 rfl ?_
    refine K.aloadN dSO_3 rfl rfl ?_
    refine K.arraylength dSO_4 PT ?_
    refine K.callS [.ref t, .int (0 : Int32), .int (0 : Int32), .int (Int32.ofNat 4)] [] 0 0 0 dSO_5 (wd214 hw) (wd215 hw) (wd216 hw) (wd217 hw) (by decide) (rmS4 l Z a0 hw t 4 p h n0 PT gt (by omega) hp) rfl (lenOf pd_8 rfl) rfl (Nat.le_of_eq rfl) (by decide) (by decide) rfl rfl (by decide) (by decide) (goU fun h17 q18 => ?_)
    obtain ⟨K19, A20⟩ := q18
    have K21 := K1.trans K19 (allS (Or.inl (List.mem_of_getElem? (i := 0) rfl)) all0)
    exact K.ret dSO_8 (by decide) (by decide) ⟨rfl, K21, A20⟩
set_option maxRecDepth 65536 in
set_option maxHeartbeats 40000000 in
theorem rmRC (l : Launch) (Z : State) (a0 : Array Value) (hw : ∀ d ∈ tables_1, d.before a0 Z = true)  (h : Heap) (n0 : Nat)  : Con l Z ⟨"java/util/Arrays", "rangeCheck", "(III)V"⟩ jdk_65_method_30_code 3 none ({ frames := 0, cells := 0, slots := 0, locals := 0 } : Room) #[.int (0 : Int32), .int (0 : Int32), .int (0 : Int32)] h n0 (fun vr h' => vr = none ∧ h' = h) := by
  refine Con.of pnRC (fun m_ => efRC m_ (0 : Int32) (0 : Int32) (0 : Int32)) (fun E K => ?_)
  refine K.iloadN dRC_0 rfl ?_
  refine K.iloadN dRC_1 rfl ?_
  refine K.ic_le dRC_2 (fun u => absurd u (by decide)) (fun _ => ?_)
  refine K.iloadN dRC_46 rfl ?_
  refine K.if_ge dRC_47 (fun u => absurd u (by decide)) (fun _ => ?_)
  refine K.iloadN dRC_59 rfl ?_
  refine K.iloadN dRC_60 rfl ?_
  refine K.ic_le dRC_61 (fun u => absurd u (by decide)) (fun _ => ?_)
  exact K.ret dRC_73 (by decide) (by decide) ⟨rfl, rfl⟩
set_option maxRecDepth 65536 in
set_option maxHeartbeats 40000000 in
theorem rmMM (l : Launch) (Z : State) (a0 : Array Value) (hw : ∀ d ∈ tables_1, d.before a0 Z = true) (a b : Addr) (h : Heap) (n0 : Nat)  : Con l Z ⟨"jdk/internal/util/ArraysSupport", "mismatch", "([II[III)I"⟩ jdk_48_method_20_code 8 (some .int) ({ frames := 0, cells := 0, slots := 0, locals := 0 } : Room) #[.ref a, .int (0 : Int32), .ref b, .int (0 : Int32), .int (0 : Int32)] h n0 (fun vr h' => vr = some (.int (-1 : Int32)) ∧ h' = h) := by
  refine Con.of pnMM (fun m_ => efMM m_ a (0 : Int32) b (0 : Int32) (0 : Int32)) (fun E K => ?_)
  refine K.iconst (0 : Int32) dMM_0 rfl ?_
  refine K.istore #[.val (.ref a), .val (.int (0 : Int32)), .val (.ref b), .val (.int (0 : Int32)), .val (.int (0 : Int32)), .val (.int (0 : Int32)), .unset, .unset] dMM_1 rfl ?_
  refine K.iload dMM_3 rfl ?_
  refine K.iconst (1 : Int32) dMM_5 rfl ?_
  refine K.ic_le dMM_6 (fun u => absurd u (by decide)) (fun _ => ?_)
  refine K.iload dMM_77 rfl ?_
  refine K.iload dMM_79 rfl ?_
  refine K.ic_ge dMM_81 (fun u => absurd u (by decide)) (fun _ => ?_)
  refine K.iconst (-1 : Int32) dMM_108 rfl ?_
  exact K.ireturn dMM_109 (Or.inl rfl) rfl (by decide) (by decide) ⟨rfl, rfl⟩
set_option maxRecDepth 65536 in
set_option maxHeartbeats 40000000 in
theorem rmAE (l : Launch) (Z : State) (a0 : Array Value) (hw : ∀ d ∈ tables_1, d.before a0 Z = true) (a b : Addr) (h : Heap) (n0 : Nat) (P0 : Ia Z h a .int (0 : Int32) (fun _ => .int 0)) (P1 : Ia Z h b .int (0 : Int32) (fun _ => .int 0)) : Con l Z ⟨"java/util/Arrays", "equals", "([III[III)Z"⟩ jdk_65_method_84_code 8 (some .boolean) ({ frames := 1, cells := 0, slots := 0, locals := 19 } : Room) #[.ref a, .int (0 : Int32), .int (0 : Int32), .ref b, .int (0 : Int32), .int (0 : Int32)] h n0 (fun vr h' => vr = some (.int (1 : Int32)) ∧ h' = h) := by
  refine Con.of pnAE (fun m_ => efAE m_ a (0 : Int32) (0 : Int32) b (0 : Int32) (0 : Int32)) (fun E K => ?_)
  refine K.aloadN dAE_0 rfl rfl ?_
  refine K.arraylength dAE_1 P0 ?_
  refine K.iloadN dAE_2 rfl ?_
  refine K.iloadN dAE_3 rfl ?_
  refine K.callS [.int (0 : Int32), .int (0 : Int32), .int (0 : Int32)] [] 0 0 0 dAE_4 (wd187 hw) (wd188 hw) (wd185 hw) (wd189 hw) (by decide) (rmRC l Z a0 hw  h n0 ) rfl (lenOf pd_9 rfl) rfl (Nat.le_of_eq rfl) (by decide) (by decide) rfl rfl (by decide) (by decide) (goN ?_)
  refine K.aloadN dAE_7 rfl rfl ?_
  refine K.arraylength dAE_8 P1 ?_
  refine K.iload dAE_9 rfl ?_
  refine K.iload dAE_11 rfl ?_
  refine K.callS [.int (0 : Int32), .int (0 : Int32), .int (0 : Int32)] [] 0 0 0 dAE_13 (wd187 hw) (wd188 hw) (wd185 hw) (wd189 hw) (by decide) (rmRC l Z a0 hw  h n0 ) rfl (lenOf pd_9 rfl) rfl (Nat.le_of_eq rfl) (by decide) (by decide) rfl rfl (by decide) (by decide) (goN ?_)
  refine K.iloadN dAE_16 rfl ?_
  refine K.iloadN dAE_17 rfl ?_
  refine K.isub dAE_18 ?_
  show Wk E h 0 0 19 #[.val (.ref a), .val (.int (0 : Int32)), .val (.int (0 : Int32)), .val (.ref b), .val (.int (0 : Int32)), .val (.int (0 : Int32)), .unset, .unset] [.int (0 : Int32)]
  refine K.istore #[.val (.ref a), .val (.int (0 : Int32)), .val (.int (0 : Int32)), .val (.ref b), .val (.int (0 : Int32)), .val (.int (0 : Int32)), .val (.int (0 : Int32)), .unset] dAE_19 rfl ?_
  refine K.iload dAE_21 rfl ?_
  refine K.iload dAE_23 rfl ?_
  refine K.isub dAE_25 ?_
  show Wk E h 0 0 26 #[.val (.ref a), .val (.int (0 : Int32)), .val (.int (0 : Int32)), .val (.ref b), .val (.int (0 : Int32)), .val (.int (0 : Int32)), .val (.int (0 : Int32)), .unset] [.int (0 : Int32)]
  refine K.istore #[.val (.ref a), .val (.int (0 : Int32)), .val (.int (0 : Int32)), .val (.ref b), .val (.int (0 : Int32)), .val (.int (0 : Int32)), .val (.int (0 : Int32)), .val (.int (0 : Int32))] dAE_26 rfl ?_
  refine K.iload dAE_28 rfl ?_
  refine K.iload dAE_30 rfl ?_
  refine K.ic_eq dAE_32 (fun _ => ?_) (fun u => absurd rfl u)
  refine K.aloadN dAE_37 rfl rfl ?_
  refine K.iloadN dAE_38 rfl ?_
  refine K.aloadN dAE_39 rfl rfl ?_
  refine K.iload dAE_40 rfl ?_
  refine K.iload dAE_42 rfl ?_
  refine K.callS [.ref a, .int (0 : Int32), .ref b, .int (0 : Int32), .int (0 : Int32)] [] 0 0 0 dAE_44 (wd190 hw) (wd191 hw) (wd192 hw) (wd193 hw) (by decide) (rmMM l Z a0 hw a b h n0 ) rfl (lenOf pd_10 rfl) rfl (Nat.le_of_eq rfl) (by decide) (by decide) rfl rfl (by decide) (by decide) (goP ?_)
  refine K.if_ge dAE_47 (fun _ => ?_) (fun u => absurd (by decide) u)
  refine K.iconst (1 : Int32) dAE_50 rfl ?_
  refine K.goto dAE_51 ?_
  exact K.ireturn dAE_55 (Or.inr (Or.inl rfl)) rfl (by decide) (by decide) ⟨rfl, rfl⟩
set_option maxRecDepth 65536 in
set_option maxHeartbeats 40000000 in
theorem rmEQ (l : Launch) (Z : State) (a0 : Array Value) (hw : ∀ d ∈ tables_1, d.before a0 Z = true) (a b ag bg ek : Addr) (nd ld lp : Int32) (h : Heap) (n0 : Nat) (PX : Exa Z h b "com/example/horatius/horatius/core/PageSummary") (G1 : Ga Z h a ag nd ld (.ref ek) lp) (G2 : Ga Z h b bg nd ld (.ref ek) lp) (A1 : Ia Z h ag .int (0 : Int32) (fun _ => .int 0)) (A2 : Ia Z h bg .int (0 : Int32) (fun _ => .int 0)) : Con l Z ⟨"com/example/horatius/horatius/core/PageSummary", "equals", "(Ljava/lang/Object;)Z"⟩ prog_23_method_11_code 3 (some .boolean) ({ frames := 2, cells := 0, slots := 0, locals := 38 } : Room) #[.ref a, .ref b] h n0 (fun vr h' => vr = some (.int (1 : Int32)) ∧ h' = h) := by
  refine Con.of pnEQ (fun m_ => efEQ m_ a b) (fun E K => ?_)
  obtain ⟨F1, F2, F3, F4, F5, F6, F7, F8⟩ := G1
  obtain ⟨F9, F10, F11, F12, F13, F14, F15, F16⟩ := G2
  refine K.aloadN dEQ_0 rfl rfl ?_
  refine K.instY dEQ_1 (wd181 hw) (Ins.self PX) ?_
  refine K.if_eq dEQ_4 (fun u => absurd u (by decide)) (fun _ => ?_)
  refine K.aloadN dEQ_7 rfl rfl ?_
  refine K.castY dEQ_8 (wd181 hw) (Ins.self PX) ?_
  refine K.astoreN #[.val (.ref a), .val (.ref b), .val (.ref b)] dEQ_11 rfl rfl ?_
  refine K.aloadN dEQ_12 rfl rfl ?_
  refine K.getF dEQ_13 (wd20 hw) F9 ?_
  refine K.aloadN dEQ_16 rfl rfl ?_
  refine K.getF dEQ_17 (wd20 hw) F1 ?_
  refine K.ic_ne dEQ_20 (fun _ => ?_) (fun u => absurd rfl u)
  refine K.aloadN dEQ_23 rfl rfl ?_
  refine K.getF dEQ_24 (wd22 hw) F10 ?_
  refine K.aloadN dEQ_27 rfl rfl ?_
  refine K.getF dEQ_28 (wd22 hw) F2 ?_
  refine K.ic_ne dEQ_31 (fun _ => ?_) (fun u => absurd rfl u)
  refine K.aloadN dEQ_34 rfl rfl ?_
  refine K.getF dEQ_35 (wd30 hw) F11 ?_
  refine K.aloadN dEQ_38 rfl rfl ?_
  refine K.getF dEQ_39 (wd30 hw) F3 ?_
  refine K.ac_ne dEQ_42 (fun _ => ?_) (fun u => absurd rfl u)
  refine K.aloadN dEQ_45 rfl rfl ?_
  refine K.getF dEQ_46 (wd32 hw) F12 ?_
  refine K.aloadN dEQ_49 rfl rfl ?_
  refine K.getF dEQ_50 (wd32 hw) F4 ?_
  refine K.ic_ne dEQ_53 (fun _ => ?_) (fun u => absurd rfl u)
  refine K.aloadN dEQ_56 rfl rfl ?_
  refine K.getF dEQ_57 (wd34 hw) F13 ?_
  refine K.aloadN dEQ_60 rfl rfl ?_
  refine K.getF dEQ_61 (wd34 hw) F5 ?_
  refine K.ic_ne dEQ_64 (fun _ => ?_) (fun u => absurd rfl u)
  refine K.aloadN dEQ_67 rfl rfl ?_
  refine K.getF dEQ_68 (wd36 hw) F14 ?_
  refine K.aloadN dEQ_71 rfl rfl ?_
  refine K.getF dEQ_72 (wd36 hw) F6 ?_
  refine K.ic_ne dEQ_75 (fun _ => ?_) (fun u => absurd rfl u)
  refine K.aloadN dEQ_78 rfl rfl ?_
  refine K.getF dEQ_79 (wd47 hw) F15 ?_
  refine K.iconst (0 : Int32) dEQ_82 rfl ?_
  refine K.aloadN dEQ_83 rfl rfl ?_
  refine K.getF dEQ_84 (wd49 hw) F16 ?_
  refine K.aloadN dEQ_87 rfl rfl ?_
  refine K.getF dEQ_88 (wd47 hw) F7 ?_
  refine K.iconst (0 : Int32) dEQ_91 rfl ?_
  refine K.aloadN dEQ_92 rfl rfl ?_
  refine K.getF dEQ_93 (wd49 hw) F8 ?_
  refine K.callS [.ref bg, .int (0 : Int32), .int (0 : Int32), .ref ag, .int (0 : Int32), .int (0 : Int32)] [] 0 0 0 dEQ_96 (wd183 hw) (wd184 hw) (wd185 hw) (wd186 hw) (by decide) (rmAE l Z a0 hw bg ag h n0 A2 A1) rfl (lenOf pd_11 rfl) rfl (Nat.le_of_eq rfl) (by decide) (by decide) rfl rfl (by decide) (by decide) (goP ?_)
  refine K.if_eq dEQ_99 (fun u => absurd u (by decide)) (fun _ => ?_)
  refine K.iconst (1 : Int32) dEQ_102 rfl ?_
  refine K.goto dEQ_103 ?_
  exact K.ireturn dEQ_107 (Or.inr (Or.inl rfl)) rfl (by decide) (by decide) ⟨rfl, rfl⟩
set_option maxRecDepth 65536 in
set_option maxHeartbeats 40000000 in
theorem rmKD (l : Launch) (Z : State) (a0 : Array Value) (hw : ∀ d ∈ tables_1, d.before a0 Z = true) (pg ki kd ek : Addr) (fd fk : Int32 → Value) (k n : Nat) (xb : Int32) (h : Heap) (n0 : Nat) (PE : Exa Z h pg "com/example/horatius/horatius/core/OutlinePage") (PF : Fld Z h pg "com/example/horatius/horatius/core/OutlinePage" "kinds" "[B" (.ref ki)) (PA : Ia Z h ki .byte (Int32.ofNat n) fk) (PK : Sta Z h "com/example/horatius/horatius/core/OutlinePage" "KINDS" "[Lcom/example/horatius/horatius/core/NodeKind;" (.ref kd)) (PD : Ia Z h kd (.object "com/example/horatius/horatius/core/NodeKind") (6 : Int32) fd) (hk : k < n) (hn : n ≤ 4) (hfk : fk (Int32.ofNat k) = .int xb) (hxb : xb &&& (7 : Int32) = 1) (hfd : fd 1 = .ref ek) : Con l Z ⟨"com/example/horatius/horatius/core/OutlinePage", "kind", "(I)Lcom/example/horatius/horatius/core/NodeKind;"⟩ prog_19_method_14_code 2 (some (.object "com/example/horatius/horatius/core/NodeKind")) ({ frames := 0, cells := 0, slots := 0, locals := 0 } : Room) #[.ref pg, .int (Int32.ofNat k)] h n0 (fun vr h' => vr = some (.ref ek) ∧ h' = h) := by
  refine Con.of pnKD (fun m_ => efKD m_ pg (Int32.ofNat k)) (fun E K => ?_)
  refine K.getS dKD_0 (wd143 hw) PK ?_
  refine K.aloadN dKD_3 rfl rfl ?_
  refine K.getF dKD_4 (wd97 hw) PF ?_
  refine K.iloadN dKD_7 rfl ?_
  refine K.baload (v := .int xb) dKD_8 PA (own_nn (by omega)) ((own_lt (by omega) (by omega)).mpr (by omega)) hfk ?_
  refine K.bipush (7 : Int32) dKD_9 rfl ?_
  refine K.iand dKD_11 ?_
  rw [hxb]
  refine K.aaload (v := .ref ek) dKD_12 PD rfl (by decide) (by decide) hfd ?_
  exact K.areturn dKD_13 rfl rfl rfl (by decide) (by decide) ⟨rfl, rfl⟩
set_option maxRecDepth 65536 in
set_option maxHeartbeats 40000000 in
theorem rmAY (l : Launch) (Z : State) (a0 : Array Value) (hw : ∀ d ∈ tables_1, d.before a0 Z = true) (pg ki kd ek aq oq : Addr) (fd fk : Int32 → Value) (k n : Nat) (xb : Int32) (h : Heap) (n0 : Nat) (PE : Exa Z h pg "com/example/horatius/horatius/core/OutlinePage") (PF : Fld Z h pg "com/example/horatius/horatius/core/OutlinePage" "kinds" "[B" (.ref ki)) (PA : Ia Z h ki .byte (Int32.ofNat n) fk) (PK : Sta Z h "com/example/horatius/horatius/core/OutlinePage" "KINDS" "[Lcom/example/horatius/horatius/core/NodeKind;" (.ref kd)) (PD : Ia Z h kd (.object "com/example/horatius/horatius/core/NodeKind") (6 : Int32) fd) (hk : k < n) (hn : n ≤ 4) (hfk : fk (Int32.ofNat k) = .int xb) (hxb : xb &&& (7 : Int32) = 1) (hfd : fd 1 = .ref ek) (P1 : Sta Z h "com/example/horatius/horatius/core/NodeKind" "ATTRIBUTE" "Lcom/example/horatius/horatius/core/NodeKind;" (.ref aq)) (P2 : Sta Z h "com/example/horatius/horatius/core/AttributeType" "OTHER" "Lcom/example/horatius/horatius/core/AttributeType;" (.ref oq)) (hna : ek ≠ aq) : Con l Z ⟨"com/example/horatius/horatius/core/OutlinePage", "attributeType", "(I)Lcom/example/horatius/horatius/core/AttributeType;"⟩ prog_19_method_16_code 2 (some (.object "com/example/horatius/horatius/core/AttributeType")) ({ frames := 1, cells := 0, slots := 0, locals := 13 } : Room) #[.ref pg, .int (Int32.ofNat k)] h n0 (fun vr h' => vr = some (.ref oq) ∧ h' = h) := by
  refine Con.of pnAY (fun m_ => efAY m_ pg (Int32.ofNat k)) (fun E K => ?_)
  refine K.aloadN dAY_0 rfl rfl ?_
  refine K.iloadN dAY_1 rfl ?_
  refine K.callV (a := pg) [.int (Int32.ofNat k)] [] 0 0 0 dAY_2 (wd150 hw) (wd151 hw) (wd153 hw) (wd152 hw) (wd53 hw) (wd154 hw) (by decide) (rmKD l Z a0 hw pg ki kd ek fd fk k n xb h n0 PE PF PA PK PD hk hn hfk hxb hfd) PE rfl (lenOf pd_12 rfl) rfl (Nat.le_of_eq rfl) (by decide) (by decide) rfl rfl (by decide) (by decide) (goP ?_)
  refine K.getS dAY_5 (wd155 hw) P1 ?_
  refine K.ac_ne dAY_8 (fun u => absurd u hna) (fun _ => ?_)
  refine K.getS dAY_29 (wd157 hw) P2 ?_
  exact K.areturn dAY_32 rfl rfl rfl (by decide) (by decide) ⟨rfl, rfl⟩
set_option maxRecDepth 65536 in
set_option maxHeartbeats 40000000 in
theorem rmSA (l : Launch) (Z : State) (a0 : Array Value) (hw : ∀ d ∈ tables_1, d.before a0 Z = true) (ga ag ek cq pq oq : Addr) (k : Nat) (ld : Int32) (lk : Value) (lp x : Int32) (h : Heap) (n0 : Nat) (PE : Exa Z h ga "com/example/horatius/horatius/core/PageSummary") (gga : n0 ≤ ga) (PG : Ga Z h ga ag (Int32.ofNat k) ld lk lp) (P1 : Sta Z h "com/example/horatius/horatius/core/NodeKind" "ELEMENT" "Lcom/example/horatius/horatius/core/NodeKind;" (.ref ek)) (P2 : Sta Z h "com/example/horatius/horatius/core/NodeKind" "COMMENT" "Lcom/example/horatius/horatius/core/NodeKind;" (.ref cq)) (P3 : Sta Z h "com/example/horatius/horatius/core/NodeKind" "PROCESSING_INSTRUCTION" "Lcom/example/horatius/horatius/core/NodeKind;" (.ref pq)) (P4 : Sta Z h "com/example/horatius/horatius/core/AttributeType" "OTHER" "Lcom/example/horatius/horatius/core/AttributeType;" (.ref oq)) (hnc : ek ≠ cq) (hnp : ek ≠ pq) (hx1 : ¬ x = 1) (hk : k < 4) : Con l Z ⟨"com/example/horatius/horatius/core/PageSummary", "add", "(Lcom/example/horatius/horatius/core/NodeKind;ILcom/example/horatius/horatius/core/AttributeType;)V"⟩ prog_23_method_3_code 4 none ({ frames := 1, cells := 0, slots := 0, locals := 14 } : Room) #[.ref ga, .ref ek, .int x, .ref oq] h n0 (fun vr h' => vr = none ∧ (Keep h h' [ga] ∧ Ga Z h' ga ag (Int32.ofNat (k + 1)) (own_ls k ld x) (.ref ek) x)) := by
  refine Con.of pnSA (fun m_ => efSA m_ ga ek x oq) (fun E K => ?_)
  obtain ⟨F1, F2, F3, F4, F5, F6, F7, F8⟩ := PG
  have K9 : Keep h h [ga] := Keep.refl _ _
  refine K.aloadN dSA_0 rfl rfl ?_
  refine K.aloadN dSA_1 rfl rfl ?_
  refine K.getF dSA_2 (wd20 hw) F1 ?_
  refine cut (P := ∀ z : Int32, z = own_ls k ld x → Wk E h 0 0 20 #[.val (.ref ga), .val (.ref ek), .val (.int x), .val (.ref oq)] [.int z, .ref ga]) (fun J10 => ?_) ?_
  · refine K.if_ne dSA_5 (fun hc11 => ?_) (fun hc11 => ?_)
    · refine K.iloadN dSA_8 rfl ?_
      refine K.goto dSA_9 ?_
      exact J10 _ (by rw [own_ls, if_pos (own_inj (j := 0) (by omega) (by decide) hc11)])
    · refine K.aloadN dSA_12 rfl rfl ?_
      refine K.getF dSA_13 (wd22 hw) F2 ?_
      refine K.iloadN dSA_16 rfl ?_
      refine K.callS [.int ld, .int x] [.ref ga] 1 0 0 dSA_17 (wd229 hw) (wd4 hw) (wd5 hw) (wd6 hw) (by decide) (rmMN l Z a0 hw ld x h n0) rfl (lenOf pd_5 rfl) rfl (Nat.le_of_eq rfl) (by decide) (by decide) rfl rfl (by decide) (by decide) (goP ?_)
      exact J10 _ (by rw [own_ls, if_neg (fun q => hc11 (by rw [q]; rfl))])
  intro z hz
  subst hz
  refine K.putF dSA_20 (wd22 hw) F2 PE (Or.inl (wd23 hw)) (wd8 hw) (ty := .int) (by decide) rfl rfl gga (fun h12 W13 => ?_)
  have K14 := K9.wr W13 (Or.inl (List.mem_of_getElem? (i := 0) rfl))
  have E15 := PE.wr W13
  have F16 := F1.other W13 (Or.inr (RoadKit.slot_ne (Or.inl (wd21 hw)) (Or.inl (wd23 hw)) (by decide) (t := .int) (t' := .int) (by decide) (by decide)))
  have F17 := F2.same W13
  have F18 := F3.other W13 (Or.inr (RoadKit.slot_ne (Or.inl (wd31 hw)) (Or.inl (wd23 hw)) (by decide) (t := (.object "com/example/horatius/horatius/core/NodeKind")) (t' := .int) (by decide) (by decide)))
  have F19 := F4.other W13 (Or.inr (RoadKit.slot_ne (Or.inl (wd33 hw)) (Or.inl (wd23 hw)) (by decide) (t := .int) (t' := .int) (by decide) (by decide)))
  have F20 := F5.other W13 (Or.inr (RoadKit.slot_ne (Or.inl (wd35 hw)) (Or.inl (wd23 hw)) (by decide) (t := .int) (t' := .int) (by decide) (by decide)))
  have F21 := F6.other W13 (Or.inr (RoadKit.slot_ne (Or.inl (wd37 hw)) (Or.inl (wd23 hw)) (by decide) (t := .int) (t' := .int) (by decide) (by decide)))
  have F22 := F7.other W13 (Or.inr (RoadKit.slot_ne (Or.inl (wd48 hw)) (Or.inl (wd23 hw)) (by decide) (t := (.array .int)) (t' := .int) (by decide) (by decide)))
  have F23 := F8.other W13 (Or.inr (RoadKit.slot_ne (Or.inl (wd50 hw)) (Or.inl (wd23 hw)) (by decide) (t := .int) (t' := .int) (by decide) (by decide)))
  have S24 := P1.wr W13
  have S25 := P2.wr W13
  have S26 := P3.wr W13
  have S27 := P4.wr W13
  refine K.aloadN dSA_23 rfl rfl ?_
  refine K.getS dSA_24 (wd165 hw) S24 ?_
  refine K.ac_ne dSA_27 (fun _ => ?_) (fun u => absurd rfl u)
  refine K.iloadN dSA_30 rfl ?_
  refine K.iconst (1 : Int32) dSA_31 rfl ?_
  refine K.ic_ne dSA_32 (fun u => absurd u hx1) (fun _ => ?_)
  refine K.aloadN dSA_45 rfl rfl ?_
  refine K.getS dSA_46 (wd166 hw) S27 ?_
  refine K.ac_eq dSA_49 (fun _ => ?_) (fun u => absurd rfl u)
  refine K.aloadN dSA_62 rfl rfl ?_
  refine K.getS dSA_63 (wd167 hw) S25 ?_
  refine K.ac_eq dSA_66 (fun u => absurd u hnc) (fun _ => ?_)
  refine K.aloadN dSA_69 rfl rfl ?_
  refine K.getS dSA_70 (wd169 hw) S26 ?_
  refine K.ac_ne dSA_73 (fun u => absurd u hnp) (fun _ => ?_)
  refine K.aloadN dSA_129 rfl rfl ?_
  refine K.aloadN dSA_130 rfl rfl ?_
  refine K.putF dSA_131 (wd30 hw) F18 E15 (Or.inl (wd31 hw)) (wd8 hw) (ty := (.object "com/example/horatius/horatius/core/NodeKind")) (by decide) rfl rfl gga (fun h28 W29 => ?_)
  have K30 := K14.wr W29 (Or.inl (List.mem_of_getElem? (i := 0) rfl))
  have E31 := E15.wr W29
  have F32 := F16.other W29 (Or.inr (RoadKit.slot_ne (Or.inl (wd21 hw)) (Or.inl (wd31 hw)) (by decide) (t := .int) (t' := (.object "com/example/horatius/horatius/core/NodeKind")) (by decide) (by decide)))
  have F33 := F17.other W29 (Or.inr (RoadKit.slot_ne (Or.inl (wd23 hw)) (Or.inl (wd31 hw)) (by decide) (t := .int) (t' := (.object "com/example/horatius/horatius/core/NodeKind")) (by decide) (by decide)))
  have F34 := F18.same W29
  have F35 := F19.other W29 (Or.inr (RoadKit.slot_ne (Or.inl (wd33 hw)) (Or.inl (wd31 hw)) (by decide) (t := .int) (t' := (.object "com/example/horatius/horatius/core/NodeKind")) (by decide) (by decide)))
  have F36 := F20.other W29 (Or.inr (RoadKit.slot_ne (Or.inl (wd35 hw)) (Or.inl (wd31 hw)) (by decide) (t := .int) (t' := (.object "com/example/horatius/horatius/core/NodeKind")) (by decide) (by decide)))
  have F37 := F21.other W29 (Or.inr (RoadKit.slot_ne (Or.inl (wd37 hw)) (Or.inl (wd31 hw)) (by decide) (t := .int) (t' := (.object "com/example/horatius/horatius/core/NodeKind")) (by decide) (by decide)))
  have F38 := F22.other W29 (Or.inr (RoadKit.slot_ne (Or.inl (wd48 hw)) (Or.inl (wd31 hw)) (by decide) (t := (.array .int)) (t' := (.object "com/example/horatius/horatius/core/NodeKind")) (by decide) (by decide)))
  have F39 := F23.other W29 (Or.inr (RoadKit.slot_ne (Or.inl (wd50 hw)) (Or.inl (wd31 hw)) (by decide) (t := .int) (t' := (.object "com/example/horatius/horatius/core/NodeKind")) (by decide) (by decide)))
  have S40 := S24.wr W29
  have S41 := S25.wr W29
  have S42 := S26.wr W29
  have S43 := S27.wr W29
  refine K.aloadN dSA_134 rfl rfl ?_
  refine K.iloadN dSA_135 rfl ?_
  refine K.putF dSA_136 (wd32 hw) F35 E31 (Or.inl (wd33 hw)) (wd8 hw) (ty := .int) (by decide) rfl rfl gga (fun h44 W45 => ?_)
  have K46 := K30.wr W45 (Or.inl (List.mem_of_getElem? (i := 0) rfl))
  have E47 := E31.wr W45
  have F48 := F32.other W45 (Or.inr (RoadKit.slot_ne (Or.inl (wd21 hw)) (Or.inl (wd33 hw)) (by decide) (t := .int) (t' := .int) (by decide) (by decide)))
  have F49 := F33.other W45 (Or.inr (RoadKit.slot_ne (Or.inl (wd23 hw)) (Or.inl (wd33 hw)) (by decide) (t := .int) (t' := .int) (by decide) (by decide)))
  have F50 := F34.other W45 (Or.inr (RoadKit.slot_ne (Or.inl (wd31 hw)) (Or.inl (wd33 hw)) (by decide) (t := (.object "com/example/horatius/horatius/core/NodeKind")) (t' := .int) (by decide) (by decide)))
  have F51 := F35.same W45
  have F52 := F36.other W45 (Or.inr (RoadKit.slot_ne (Or.inl (wd35 hw)) (Or.inl (wd33 hw)) (by decide) (t := .int) (t' := .int) (by decide) (by decide)))
  have F53 := F37.other W45 (Or.inr (RoadKit.slot_ne (Or.inl (wd37 hw)) (Or.inl (wd33 hw)) (by decide) (t := .int) (t' := .int) (by decide) (by decide)))
  have F54 := F38.other W45 (Or.inr (RoadKit.slot_ne (Or.inl (wd48 hw)) (Or.inl (wd33 hw)) (by decide) (t := (.array .int)) (t' := .int) (by decide) (by decide)))
  have F55 := F39.other W45 (Or.inr (RoadKit.slot_ne (Or.inl (wd50 hw)) (Or.inl (wd33 hw)) (by decide) (t := .int) (t' := .int) (by decide) (by decide)))
  have S56 := S40.wr W45
  have S57 := S41.wr W45
  have S58 := S42.wr W45
  have S59 := S43.wr W45
  refine K.aloadN dSA_139 rfl rfl ?_
  refine K.dup dSA_140 rfl ?_
  refine K.getF dSA_141 (wd20 hw) F48 ?_
  refine K.iconst (1 : Int32) dSA_144 rfl ?_
  refine K.iadd dSA_145 ?_
  rw [own_inc k]
  refine K.putF dSA_146 (wd20 hw) F48 E47 (Or.inl (wd21 hw)) (wd8 hw) (ty := .int) (by decide) rfl rfl gga (fun h60 W61 => ?_)
  have K62 := K46.wr W61 (Or.inl (List.mem_of_getElem? (i := 0) rfl))
  have E63 := E47.wr W61
  have F64 := F48.same W61
  have F65 := F49.other W61 (Or.inr (RoadKit.slot_ne (Or.inl (wd23 hw)) (Or.inl (wd21 hw)) (by decide) (t := .int) (t' := .int) (by decide) (by decide)))
  have F66 := F50.other W61 (Or.inr (RoadKit.slot_ne (Or.inl (wd31 hw)) (Or.inl (wd21 hw)) (by decide) (t := (.object "com/example/horatius/horatius/core/NodeKind")) (t' := .int) (by decide) (by decide)))
  have F67 := F51.other W61 (Or.inr (RoadKit.slot_ne (Or.inl (wd33 hw)) (Or.inl (wd21 hw)) (by decide) (t := .int) (t' := .int) (by decide) (by decide)))
  have F68 := F52.other W61 (Or.inr (RoadKit.slot_ne (Or.inl (wd35 hw)) (Or.inl (wd21 hw)) (by decide) (t := .int) (t' := .int) (by decide) (by decide)))
  have F69 := F53.other W61 (Or.inr (RoadKit.slot_ne (Or.inl (wd37 hw)) (Or.inl (wd21 hw)) (by decide) (t := .int) (t' := .int) (by decide) (by decide)))
  have F70 := F54.other W61 (Or.inr (RoadKit.slot_ne (Or.inl (wd48 hw)) (Or.inl (wd21 hw)) (by decide) (t := (.array .int)) (t' := .int) (by decide) (by decide)))
  have F71 := F55.other W61 (Or.inr (RoadKit.slot_ne (Or.inl (wd50 hw)) (Or.inl (wd21 hw)) (by decide) (t := .int) (t' := .int) (by decide) (by decide)))
  have S72 := S56.wr W61
  have S73 := S57.wr W61
  have S74 := S58.wr W61
  have S75 := S59.wr W61
  exact K.ret dSA_149 (by decide) (by decide) ⟨rfl, K62, ⟨F64, F65, F66, F67, F68, F69, F70, F71⟩⟩
set_option maxRecDepth 65536 in
set_option maxHeartbeats 40000000 in
theorem rmPH (l : Launch) (Z : State) (a0 : Array Value) (hw : ∀ d ∈ tables_1, d.before a0 Z = true) (pg su ki na de pa sb ga op ek : Addr) (st sz : Int32) (pk : Value) (pd ob : Int32) (oc n : Nat) (g : Nat → Int32) (fs : Int32 → Value) (x : Int32) (h : Heap) (n0 : Nat) (PP : Pg Z h pg su ki na de pa sb ga op st sz pk pd ob (Int32.ofNat oc)) (PE : Exa Z h pg "com/example/horatius/horatius/core/OutlinePage") (PS_ : Ia Z h sb .int (Int32.ofNat n) fs) (PO : Ia Z h op .int (16 : Int32) (intF g)) (gpg : n0 ≤ pg) (gsb : n0 ≤ sb) (hps : pg < sb) (hpo : pg < op) (hos : op < sb) (hst : ¬ st + sz = 0) (hx : 1 ≤ x.toInt) (hle : x.toInt ≤ ob.toInt + oc) (hob : 1 ≤ ob.toInt) (hmx : ob.toInt + oc < 2147483648) (hoc : oc ≤ 4) (hg : ∀ j, j < oc → ¬ g j < 0 ∧ g j < Int32.ofNat n) : Con l Z ⟨"com/example/horatius/horatius/core/OutlinePage", "placeChild", "(Lcom/example/horatius/horatius/core/NodeKind;I)I"⟩ prog_19_method_23_code 3 (some .int) ({ frames := 1, cells := 0, slots := 0, locals := 12 } : Room) #[.ref pg, .ref ek, .int x] h n0 (fun vr h' => ∃ z, vr = some (.int z) ∧ (Keep h h' [pg, sb] ∧ ∃ (ob' : Int32) (oc' : Nat) (fs' : Int32 → Value), oc' ≤ oc ∧ 1 ≤ ob'.toInt ∧ ob'.toInt + oc' = x.toInt ∧ Pg Z h' pg su ki na de pa sb ga op st sz pk pd ob' (Int32.ofNat oc') ∧ Ia Z h' sb .int (Int32.ofNat n) fs')) := by
  refine Con.of pnPH (fun m_ => efPH m_ pg ek x) (fun E K => ?_)
  obtain ⟨F1, F2, F3, F4, F5, F6, F7, F8, F9, F10, F11, F12, F13, F14, F15, F16, F17, F18⟩ := PP
  have K19 : Keep h h [pg, sb] := Keep.refl _ _
  refine K.aloadN dPH_0 rfl rfl ?_
  refine K.callP (a := pg) [] [] 0 0 0 dPH_1 (wd116 hw) (wd118 hw) (own_selp (wd118 hw) (wd117 hw) (wd52 hw) (by decide)) (wd117 hw) (wd53 hw) (wd119 hw) (by decide) (rmCS l Z a0 hw pg st sz h n0 F1 F10 hst) PE rfl (lenOf pd_2 rfl) rfl (Nat.le_of_eq rfl) (by decide) (by decide) rfl rfl (by decide) (by decide) (goN ?_)
  refine K.iloadN dPH_4 rfl ?_
  refine K.iconst (1 : Int32) dPH_5 rfl ?_
  refine K.ic_lt dPH_6 (fun u => absurd u (by rw [own_ltI]; have : (1 : Int32).toInt = 1 := rfl; omega)) (fun _ => ?_)
  refine K.iloadN dPH_9 rfl ?_
  refine K.aloadN dPH_10 rfl rfl ?_
  refine K.getF dPH_11 (wd89 hw) F13 ?_
  refine K.aloadN dPH_14 rfl rfl ?_
  refine K.getF dPH_15 (wd122 hw) F15 ?_
  refine K.iadd dPH_18 ?_
  refine K.ic_le dPH_19 (fun u => absurd u (fun q => absurd (own_ltI.mp q) (by rw [own_sumI (by omega) hmx]; omega))) (fun _ => ?_)
  have LOOP : ∀ (d : Nat) (h1 : Heap) (ob1 : Int32) (oc1 : Nat) (fs1 : Int32 → Value), ob1.toInt + oc1 ≤ x.toInt + d → x.toInt ≤ ob1.toInt + oc1 → 1 ≤ ob1.toInt → ob1.toInt + oc1 < 2147483648 → oc1 ≤ oc → Pg Z h1 pg su ki na de pa sb ga op st sz pk pd ob1 (Int32.ofNat oc1) → Exa Z h1 pg "com/example/horatius/horatius/core/OutlinePage" → Ia Z h1 sb .int (Int32.ofNat n) fs1 → Ia Z h1 op .int (16 : Int32) (intF g) → Keep h h1 [pg, sb] → Wk E h1 0 0 37 #[.val (.ref pg), .val (.ref ek), .val (.int x)] [] := by
    intro d
    induction d with
    | zero =>
      intro h1 ob1 oc1 fs1 hd hle1 hob1 hmx1 hoc1 PP1 PE1 PS1 PO1 KK
      obtain ⟨F20, F21, F22, F23, F24, F25, F26, F27, F28, F29, F30, F31, F32, F33, F34, F35, F36, F37⟩ := PP1
      have heq : ob1.toInt + oc1 = x.toInt := by omega
      refine K.aloadN dPH_37 rfl rfl ?_
      refine K.getF dPH_38 (wd89 hw) F32 ?_
      refine K.aloadN dPH_41 rfl rfl ?_
      refine K.getF dPH_42 (wd122 hw) F34 ?_
      refine K.iadd dPH_45 ?_
      refine K.iloadN dPH_46 rfl ?_
      refine K.ic_le dPH_47 (fun u => absurd u (fun q => absurd ((own_pl1 hob1 hmx1).mp q) (by omega))) (fun _ => ?_)
      refine K.iloadN dPH_103 rfl ?_
      refine K.iconst (1 : Int32) dPH_104 rfl ?_
      refine K.isub dPH_105 ?_
      refine K.aloadN dPH_106 rfl rfl ?_
      refine K.getF dPH_107 (wd89 hw) F32 ?_
      refine K.ic_ge dPH_110 (fun hc38 => ?_) (fun hc38 => ?_)
      · refine K.iconst (-1 : Int32) dPH_113 rfl ?_
        refine K.goto dPH_114 ?_
        exact K.ireturn dPH_135 (Or.inl rfl) rfl (by decide) (by decide) ⟨_, rfl, KK, ob1, oc1, fs1, hoc1, hob1, heq, ⟨F20, F21, F22, F23, F24, F25, F26, F27, F28, F29, F30, F31, F32, F33, F34, F35, F36, F37⟩, PS1⟩
      · obtain ⟨ho1, eix⟩ := own_pidx heq hc38 hob1 (by omega)
        refine K.aloadN dPH_117 rfl rfl ?_
        refine K.getF dPH_118 (wd68 hw) F20 ?_
        refine K.aloadN dPH_121 rfl rfl ?_
        refine K.getF dPH_122 (wd64 hw) F33 ?_
        refine K.iloadN dPH_125 rfl ?_
        refine K.iconst (1 : Int32) dPH_126 rfl ?_
        refine K.isub dPH_127 ?_
        refine K.aloadN dPH_128 rfl rfl ?_
        refine K.getF dPH_129 (wd89 hw) F32 ?_
        refine K.isub dPH_132 ?_
        rw [eix]
        refine K.iaload (v := .int (g (oc1 - 1))) dPH_133 PO1 (own_nn (by omega)) ((own_lt (j := 16) (by omega) (by decide)).mpr (by omega)) (own_ri g (by omega)) ?_
        refine K.iadd dPH_134 ?_
        exact K.ireturn dPH_135 (Or.inl rfl) rfl (by decide) (by decide) ⟨_, rfl, KK, ob1, oc1, fs1, hoc1, hob1, heq, ⟨F20, F21, F22, F23, F24, F25, F26, F27, F28, F29, F30, F31, F32, F33, F34, F35, F36, F37⟩, PS1⟩
    | succ d ih =>
      intro h1 ob1 oc1 fs1 hd hle1 hob1 hmx1 hoc1 PP1 PE1 PS1 PO1 KK
      obtain ⟨F39, F40, F41, F42, F43, F44, F45, F46, F47, F48, F49, F50, F51, F52, F53, F54, F55, F56⟩ := PP1
      by_cases hlt : x.toInt < ob1.toInt + oc1
      · refine K.aloadN dPH_37 rfl rfl ?_
        refine K.getF dPH_38 (wd89 hw) F51 ?_
        refine K.aloadN dPH_41 rfl rfl ?_
        refine K.getF dPH_42 (wd122 hw) F53 ?_
        refine K.iadd dPH_45 ?_
        refine K.iloadN dPH_46 rfl ?_
        refine K.ic_le dPH_47 (fun _ => ?_) (fun u => absurd ((own_pl1 hob1 hmx1).mpr hlt) u)
        refine K.aloadN dPH_50 rfl rfl ?_
        refine K.getF dPH_51 (wd122 hw) F53 ?_
        rcases oc1 with _ | m
        · refine K.if_le dPH_54 (fun u => absurd u (by decide)) (fun _ => ?_)
          refine K.aloadN dPH_90 rfl rfl ?_
          refine K.dup dPH_91 rfl ?_
          refine K.getF dPH_92 (wd89 hw) F51 ?_
          refine K.iconst (1 : Int32) dPH_95 rfl ?_
          refine K.isub dPH_96 ?_
          refine K.putF dPH_97 (wd89 hw) F51 PE1 (Or.inl (wd90 hw)) (wd52 hw) (ty := .int) (by decide) rfl rfl gpg (fun h57 W58 => ?_)
          have K59 := KK.wr W58 (Or.inl (List.mem_of_getElem? (i := 0) rfl))
          have F60 := F39.other W58 (Or.inr (RoadKit.slot_ne (Or.inr (wd69 hw)) (Or.inl (wd90 hw)) (by decide) (t := .int) (t' := .int) (by decide) (by decide)))
          have F61 := F40.other W58 (Or.inr (RoadKit.slot_ne (Or.inr (wd71 hw)) (Or.inl (wd90 hw)) (by decide) (t := (.object "com/example/horatius/horatius/core/PageSummary")) (t' := .int) (by decide) (by decide)))
          have F62 := F41.other W58 (Or.inr (RoadKit.slot_ne (Or.inr (wd73 hw)) (Or.inl (wd90 hw)) (by decide) (t := .int) (t' := .int) (by decide) (by decide)))
          have F63 := F42.other W58 (Or.inr (RoadKit.slot_ne (Or.inr (wd98 hw)) (Or.inl (wd90 hw)) (by decide) (t := (.array .byte)) (t' := .int) (by decide) (by decide)))
          have F64 := F43.other W58 (Or.inr (RoadKit.slot_ne (Or.inr (wd100 hw)) (Or.inl (wd90 hw)) (by decide) (t := (.array .int)) (t' := .int) (by decide) (by decide)))
          have F65 := F44.other W58 (Or.inr (RoadKit.slot_ne (Or.inr (wd102 hw)) (Or.inl (wd90 hw)) (by decide) (t := (.array .int)) (t' := .int) (by decide) (by decide)))
          have F66 := F45.other W58 (Or.inr (RoadKit.slot_ne (Or.inr (wd104 hw)) (Or.inl (wd90 hw)) (by decide) (t := (.array .int)) (t' := .int) (by decide) (by decide)))
          have F67 := F46.other W58 (Or.inr (RoadKit.slot_ne (Or.inr (wd106 hw)) (Or.inl (wd90 hw)) (by decide) (t := (.array .int)) (t' := .int) (by decide) (by decide)))
          have F68 := F47.other W58 (Or.inr (RoadKit.slot_ne (Or.inr (wd63 hw)) (Or.inl (wd90 hw)) (by decide) (t := (.object "com/example/horatius/horatius/core/PageSummary")) (t' := .int) (by decide) (by decide)))
          have F69 := F48.other W58 (Or.inr (RoadKit.slot_ne (Or.inl (wd121 hw)) (Or.inl (wd90 hw)) (by decide) (t := .int) (t' := .int) (by decide) (by decide)))
          have F70 := F49.other W58 (Or.inr (RoadKit.slot_ne (Or.inl (wd80 hw)) (Or.inl (wd90 hw)) (by decide) (t := (.object "com/example/horatius/horatius/core/NodeKind")) (t' := .int) (by decide) (by decide)))
          have F71 := F50.other W58 (Or.inr (RoadKit.slot_ne (Or.inl (wd87 hw)) (Or.inl (wd90 hw)) (by decide) (t := .int) (t' := .int) (by decide) (by decide)))
          have F72 := F51.same W58
          have F73 := F52.other W58 (Or.inr (RoadKit.slot_ne (Or.inl (wd65 hw)) (Or.inl (wd90 hw)) (by decide) (t := (.array .int)) (t' := .int) (by decide) (by decide)))
          have F74 := F53.other W58 (Or.inr (RoadKit.slot_ne (Or.inl (wd123 hw)) (Or.inl (wd90 hw)) (by decide) (t := .int) (t' := .int) (by decide) (by decide)))
          have F75 := F54.other W58 (Or.inr (RoadKit.slot_ne (Or.inl (wd208 hw)) (Or.inl (wd90 hw)) (by decide) (t := (.array .int)) (t' := .int) (by decide) (by decide)))
          have F76 := F55.other W58 (Or.inr (RoadKit.slot_ne (Or.inl (wd210 hw)) (Or.inl (wd90 hw)) (by decide) (t := (.array .int)) (t' := .int) (by decide) (by decide)))
          have F77 := F56.other W58 (Or.inr (RoadKit.slot_ne (Or.inl (wd142 hw)) (Or.inl (wd90 hw)) (by decide) (t := .boolean) (t' := .int) (by decide) (by decide)))
          have E78 := PE1.wr W58
          have I79 := PS1.other W58 (Nat.ne_of_gt hps)
          have I80 := PO1.other W58 (Nat.ne_of_gt hpo)
          refine K.goto dPH_100 ?_
          have hob2 := own_ob hob1
          exact ih _ (ob1 - 1) 0 fs1 (by rw [hob2]; omega) (by rw [hob2]; omega) (by rw [hob2]; omega) (by rw [hob2]; omega) (by omega) ⟨F60, F61, F62, F63, F64, F65, F66, F67, F68, F69, F70, F71, F72, F73, F74, F75, F76, F77⟩ E78 I79 I80 K59
        · refine K.if_le dPH_54 (fun _ => ?_) (fun u => absurd ((own_lt (i := 0) (by decide) (by omega)).mpr (by omega)) u)
          refine K.aloadN dPH_57 rfl rfl ?_
          refine K.getF dPH_58 (wd105 hw) F46 ?_
          refine K.aloadN dPH_61 rfl rfl ?_
          refine K.getF dPH_62 (wd64 hw) F52 ?_
          refine K.aloadN dPH_65 rfl rfl ?_
          refine K.dup dPH_66 rfl ?_
          refine K.getF dPH_67 (wd122 hw) F53 ?_
          refine K.iconst (1 : Int32) dPH_70 rfl ?_
          refine K.isub dPH_71 ?_
          rw [own_dec m]
          refine K.dup_x1 dPH_72 rfl rfl ?_
          refine K.putF dPH_73 (wd122 hw) F53 PE1 (Or.inl (wd123 hw)) (wd52 hw) (ty := .int) (by decide) rfl rfl gpg (fun h81 W82 => ?_)
          have K83 := KK.wr W82 (Or.inl (List.mem_of_getElem? (i := 0) rfl))
          have F84 := F39.other W82 (Or.inr (RoadKit.slot_ne (Or.inr (wd69 hw)) (Or.inl (wd123 hw)) (by decide) (t := .int) (t' := .int) (by decide) (by decide)))
          have F85 := F40.other W82 (Or.inr (RoadKit.slot_ne (Or.inr (wd71 hw)) (Or.inl (wd123 hw)) (by decide) (t := (.object "com/example/horatius/horatius/core/PageSummary")) (t' := .int) (by decide) (by decide)))
          have F86 := F41.other W82 (Or.inr (RoadKit.slot_ne (Or.inr (wd73 hw)) (Or.inl (wd123 hw)) (by decide) (t := .int) (t' := .int) (by decide) (by decide)))
          have F87 := F42.other W82 (Or.inr (RoadKit.slot_ne (Or.inr (wd98 hw)) (Or.inl (wd123 hw)) (by decide) (t := (.array .byte)) (t' := .int) (by decide) (by decide)))
          have F88 := F43.other W82 (Or.inr (RoadKit.slot_ne (Or.inr (wd100 hw)) (Or.inl (wd123 hw)) (by decide) (t := (.array .int)) (t' := .int) (by decide) (by decide)))
          have F89 := F44.other W82 (Or.inr (RoadKit.slot_ne (Or.inr (wd102 hw)) (Or.inl (wd123 hw)) (by decide) (t := (.array .int)) (t' := .int) (by decide) (by decide)))
          have F90 := F45.other W82 (Or.inr (RoadKit.slot_ne (Or.inr (wd104 hw)) (Or.inl (wd123 hw)) (by decide) (t := (.array .int)) (t' := .int) (by decide) (by decide)))
          have F91 := F46.other W82 (Or.inr (RoadKit.slot_ne (Or.inr (wd106 hw)) (Or.inl (wd123 hw)) (by decide) (t := (.array .int)) (t' := .int) (by decide) (by decide)))
          have F92 := F47.other W82 (Or.inr (RoadKit.slot_ne (Or.inr (wd63 hw)) (Or.inl (wd123 hw)) (by decide) (t := (.object "com/example/horatius/horatius/core/PageSummary")) (t' := .int) (by decide) (by decide)))
          have F93 := F48.other W82 (Or.inr (RoadKit.slot_ne (Or.inl (wd121 hw)) (Or.inl (wd123 hw)) (by decide) (t := .int) (t' := .int) (by decide) (by decide)))
          have F94 := F49.other W82 (Or.inr (RoadKit.slot_ne (Or.inl (wd80 hw)) (Or.inl (wd123 hw)) (by decide) (t := (.object "com/example/horatius/horatius/core/NodeKind")) (t' := .int) (by decide) (by decide)))
          have F95 := F50.other W82 (Or.inr (RoadKit.slot_ne (Or.inl (wd87 hw)) (Or.inl (wd123 hw)) (by decide) (t := .int) (t' := .int) (by decide) (by decide)))
          have F96 := F51.other W82 (Or.inr (RoadKit.slot_ne (Or.inl (wd90 hw)) (Or.inl (wd123 hw)) (by decide) (t := .int) (t' := .int) (by decide) (by decide)))
          have F97 := F52.other W82 (Or.inr (RoadKit.slot_ne (Or.inl (wd65 hw)) (Or.inl (wd123 hw)) (by decide) (t := (.array .int)) (t' := .int) (by decide) (by decide)))
          have F98 := F53.same W82
          have F99 := F54.other W82 (Or.inr (RoadKit.slot_ne (Or.inl (wd208 hw)) (Or.inl (wd123 hw)) (by decide) (t := (.array .int)) (t' := .int) (by decide) (by decide)))
          have F100 := F55.other W82 (Or.inr (RoadKit.slot_ne (Or.inl (wd210 hw)) (Or.inl (wd123 hw)) (by decide) (t := (.array .int)) (t' := .int) (by decide) (by decide)))
          have F101 := F56.other W82 (Or.inr (RoadKit.slot_ne (Or.inl (wd142 hw)) (Or.inl (wd123 hw)) (by decide) (t := .boolean) (t' := .int) (by decide) (by decide)))
          have E102 := PE1.wr W82
          have I103 := PS1.other W82 (Nat.ne_of_gt hps)
          have I104 := PO1.other W82 (Nat.ne_of_gt hpo)
          refine K.iaload (v := .int (g m)) dPH_76 I104 (own_nn (by omega)) ((own_lt (j := 16) (by omega) (by decide)).mpr (by omega)) (own_ri g (by omega)) ?_
          refine K.aloadN dPH_77 rfl rfl ?_
          refine K.getF dPH_78 (wd68 hw) F84 ?_
          refine K.aloadN dPH_81 rfl rfl ?_
          refine K.getF dPH_82 (wd120 hw) F93 ?_
          refine K.iadd dPH_85 ?_
          refine K.iastore dPH_86 I103 (hg m (by omega)).1 (hg m (by omega)).2 gsb (fun h105 W106 A107 => ?_)
          have K108 := K83.wr W106 (Or.inl (List.mem_of_getElem? (i := 1) rfl))
          have F109 := F84.other W106 (Or.inl (Nat.ne_of_lt hps))
          have F110 := F85.other W106 (Or.inl (Nat.ne_of_lt hps))
          have F111 := F86.other W106 (Or.inl (Nat.ne_of_lt hps))
          have F112 := F87.other W106 (Or.inl (Nat.ne_of_lt hps))
          have F113 := F88.other W106 (Or.inl (Nat.ne_of_lt hps))
          have F114 := F89.other W106 (Or.inl (Nat.ne_of_lt hps))
          have F115 := F90.other W106 (Or.inl (Nat.ne_of_lt hps))
          have F116 := F91.other W106 (Or.inl (Nat.ne_of_lt hps))
          have F117 := F92.other W106 (Or.inl (Nat.ne_of_lt hps))
          have F118 := F93.other W106 (Or.inl (Nat.ne_of_lt hps))
          have F119 := F94.other W106 (Or.inl (Nat.ne_of_lt hps))
          have F120 := F95.other W106 (Or.inl (Nat.ne_of_lt hps))
          have F121 := F96.other W106 (Or.inl (Nat.ne_of_lt hps))
          have F122 := F97.other W106 (Or.inl (Nat.ne_of_lt hps))
          have F123 := F98.other W106 (Or.inl (Nat.ne_of_lt hps))
          have F124 := F99.other W106 (Or.inl (Nat.ne_of_lt hps))
          have F125 := F100.other W106 (Or.inl (Nat.ne_of_lt hps))
          have F126 := F101.other W106 (Or.inl (Nat.ne_of_lt hps))
          have E127 := E102.wr W106
          have I128 := I104.other W106 (Nat.ne_of_lt hos)
          refine K.goto dPH_87 ?_
          exact ih _ ob1 m _ (by omega) (by omega) hob1 (by omega) (by omega) ⟨F109, F110, F111, F112, F113, F114, F115, F116, F117, F118, F119, F120, F121, F122, F123, F124, F125, F126⟩ E127 A107 I128 K108
      · have heq : ob1.toInt + oc1 = x.toInt := by omega
        refine K.aloadN dPH_37 rfl rfl ?_
        refine K.getF dPH_38 (wd89 hw) F51 ?_
        refine K.aloadN dPH_41 rfl rfl ?_
        refine K.getF dPH_42 (wd122 hw) F53 ?_
        refine K.iadd dPH_45 ?_
        refine K.iloadN dPH_46 rfl ?_
        refine K.ic_le dPH_47 (fun u => absurd u (fun q => absurd ((own_pl1 hob1 hmx1).mp q) (by omega))) (fun _ => ?_)
        refine K.iloadN dPH_103 rfl ?_
        refine K.iconst (1 : Int32) dPH_104 rfl ?_
        refine K.isub dPH_105 ?_
        refine K.aloadN dPH_106 rfl rfl ?_
        refine K.getF dPH_107 (wd89 hw) F51 ?_
        refine K.ic_ge dPH_110 (fun hc129 => ?_) (fun hc129 => ?_)
        · refine K.iconst (-1 : Int32) dPH_113 rfl ?_
          refine K.goto dPH_114 ?_
          exact K.ireturn dPH_135 (Or.inl rfl) rfl (by decide) (by decide) ⟨_, rfl, KK, ob1, oc1, fs1, hoc1, hob1, heq, ⟨F39, F40, F41, F42, F43, F44, F45, F46, F47, F48, F49, F50, F51, F52, F53, F54, F55, F56⟩, PS1⟩
        · obtain ⟨ho1, eix⟩ := own_pidx heq hc129 hob1 (by omega)
          refine K.aloadN dPH_117 rfl rfl ?_
          refine K.getF dPH_118 (wd68 hw) F39 ?_
          refine K.aloadN dPH_121 rfl rfl ?_
          refine K.getF dPH_122 (wd64 hw) F52 ?_
          refine K.iloadN dPH_125 rfl ?_
          refine K.iconst (1 : Int32) dPH_126 rfl ?_
          refine K.isub dPH_127 ?_
          refine K.aloadN dPH_128 rfl rfl ?_
          refine K.getF dPH_129 (wd89 hw) F51 ?_
          refine K.isub dPH_132 ?_
          rw [eix]
          refine K.iaload (v := .int (g (oc1 - 1))) dPH_133 PO1 (own_nn (by omega)) ((own_lt (j := 16) (by omega) (by decide)).mpr (by omega)) (own_ri g (by omega)) ?_
          refine K.iadd dPH_134 ?_
          exact K.ireturn dPH_135 (Or.inl rfl) rfl (by decide) (by decide) ⟨_, rfl, KK, ob1, oc1, fs1, hoc1, hob1, heq, ⟨F39, F40, F41, F42, F43, F44, F45, F46, F47, F48, F49, F50, F51, F52, F53, F54, F55, F56⟩, PS1⟩
  exact LOOP (ob.toInt + oc - x.toInt).toNat _ ob oc fs (by omega) hle hob hmx (Nat.le_refl _) ⟨F1, F2, F3, F4, F5, F6, F7, F8, F9, F10, F11, F12, F13, F14, F15, F16, F17, F18⟩ PE PS_ PO K19
set_option maxRecDepth 65536 in
set_option maxHeartbeats 40000000 in
theorem rmAD (l : Launch) (Z : State) (a0 : Array Value) (hw : ∀ d ∈ tables_1, d.before a0 Z = true) (ek aq cq pq oq kd su sa pg ga ag op ki na de pa sb : Addr) (fd : Int32 → Value) (st : Int32) (k n : Nat) (pk : Value) (pd ob : Int32) (oc : Nat) (ld : Int32) (lk : Value) (lp : Int32) (e : Nat → Int32) (fk fn fp fs : Int32 → Value) (x y : Int32) (h : Heap) (n0 : Nat) (PO : Od ek kd su sa pg ga ag op ki na de pa sb) (gpg : n0 ≤ pg) (PT : Stt Z h ek aq cq pq oq kd fd) (PE : Exa Z h pg "com/example/horatius/horatius/core/OutlinePage") (PX : Exa Z h ga "com/example/horatius/horatius/core/PageSummary") (PP : Pg Z h pg su ki na de pa sb ga op st (Int32.ofNat k) pk pd ob (Int32.ofNat oc)) (PG : Ga Z h ga ag (Int32.ofNat k) ld lk lp) (A1 : Ia Z h ki .byte (Int32.ofNat n) fk) (A2 : Ia Z h na .int (Int32.ofNat n) fn) (A3 : Ia Z h de .int (Int32.ofNat n) (dF e k)) (A4 : Ia Z h pa .int (Int32.ofNat n) fp) (A5 : Ia Z h sb .int (Int32.ofNat n) fs) (hk : k < n) (hn : n ≤ 4) (hx1 : ¬ e k = 1) (hx : x &&& (7 : Int32) = 1) (hx2 : x.toInt8.toInt32.toInt8.toInt32 &&& (7 : Int32) = 1) : Con l Z ⟨"com/example/horatius/horatius/core/OutlinePage", "add", "(IIII)V"⟩ prog_19_method_27_code 7 none ({ frames := 2, cells := 0, slots := 0, locals := 29 } : Room) #[.ref pg, .int x, .int (0 : Int32), .int (e k), .int y] h n0 (fun vr h' => vr = none ∧ (Keep h h' [pg, ga, ki, na, de, pa, sb] ∧ Pg Z h' pg su ki na de pa sb ga op st (Int32.ofNat (k + 1)) (.ref ek) (e k) ob (Int32.ofNat oc) ∧ Ga Z h' ga ag (Int32.ofNat (k + 1)) (own_ls k ld (e k)) (.ref ek) (e k) ∧ (∃ f, Ia Z h' ki .byte (Int32.ofNat n) f) ∧ (∃ f, Ia Z h' na .int (Int32.ofNat n) f) ∧ Ia Z h' de .int (Int32.ofNat n) (dF e (k + 1)) ∧ (∃ f, Ia Z h' pa .int (Int32.ofNat n) f) ∧ (∃ f, Ia Z h' sb .int (Int32.ofNat n) f))) := by
  refine Con.of pnAD (fun m_ => efAD m_ pg x (0 : Int32) (e k) y) (fun E K => ?_)
  obtain ⟨⟨od_ek_pg, od_kd_pg, od_su_pg, od_sa_pg⟩, od_pg_ga, od_ga_ag, od_ag_op, od_op_ki, od_ki_na, od_na_de, od_de_pa, od_pa_sb⟩ := PO
  have od_pg_ag := Nat.lt_trans od_pg_ga od_ga_ag
  have od_pg_op := Nat.lt_trans od_pg_ag od_ag_op
  have od_pg_ki := Nat.lt_trans od_pg_op od_op_ki
  have od_pg_na := Nat.lt_trans od_pg_ki od_ki_na
  have od_pg_de := Nat.lt_trans od_pg_na od_na_de
  have od_pg_pa := Nat.lt_trans od_pg_de od_de_pa
  have od_pg_sb := Nat.lt_trans od_pg_pa od_pa_sb
  have od_ga_op := Nat.lt_trans od_ga_ag od_ag_op
  have od_ga_ki := Nat.lt_trans od_ga_op od_op_ki
  have od_ga_na := Nat.lt_trans od_ga_ki od_ki_na
  have od_ga_de := Nat.lt_trans od_ga_na od_na_de
  have od_ga_pa := Nat.lt_trans od_ga_de od_de_pa
  have od_ga_sb := Nat.lt_trans od_ga_pa od_pa_sb
  have od_ag_ki := Nat.lt_trans od_ag_op od_op_ki
  have od_ag_na := Nat.lt_trans od_ag_ki od_ki_na
  have od_ag_de := Nat.lt_trans od_ag_na od_na_de
  have od_ag_pa := Nat.lt_trans od_ag_de od_de_pa
  have od_ag_sb := Nat.lt_trans od_ag_pa od_pa_sb
  have od_op_na := Nat.lt_trans od_op_ki od_ki_na
  have od_op_de := Nat.lt_trans od_op_na od_na_de
  have od_op_pa := Nat.lt_trans od_op_de od_de_pa
  have od_op_sb := Nat.lt_trans od_op_pa od_pa_sb
  have od_ki_de := Nat.lt_trans od_ki_na od_na_de
  have od_ki_pa := Nat.lt_trans od_ki_de od_de_pa
  have od_ki_sb := Nat.lt_trans od_ki_pa od_pa_sb
  have od_na_pa := Nat.lt_trans od_na_de od_de_pa
  have od_na_sb := Nat.lt_trans od_na_pa od_pa_sb
  have od_de_sb := Nat.lt_trans od_de_pa od_pa_sb
  have od_ek_ga := Nat.lt_trans od_ek_pg od_pg_ga
  have od_ek_ag := Nat.lt_trans od_ek_pg od_pg_ag
  have od_ek_op := Nat.lt_trans od_ek_pg od_pg_op
  have od_ek_ki := Nat.lt_trans od_ek_pg od_pg_ki
  have od_ek_na := Nat.lt_trans od_ek_pg od_pg_na
  have od_ek_de := Nat.lt_trans od_ek_pg od_pg_de
  have od_ek_pa := Nat.lt_trans od_ek_pg od_pg_pa
  have od_ek_sb := Nat.lt_trans od_ek_pg od_pg_sb
  have od_kd_ga := Nat.lt_trans od_kd_pg od_pg_ga
  have od_kd_ag := Nat.lt_trans od_kd_pg od_pg_ag
  have od_kd_op := Nat.lt_trans od_kd_pg od_pg_op
  have od_kd_ki := Nat.lt_trans od_kd_pg od_pg_ki
  have od_kd_na := Nat.lt_trans od_kd_pg od_pg_na
  have od_kd_de := Nat.lt_trans od_kd_pg od_pg_de
  have od_kd_pa := Nat.lt_trans od_kd_pg od_pg_pa
  have od_kd_sb := Nat.lt_trans od_kd_pg od_pg_sb
  have od_su_ga := Nat.lt_trans od_su_pg od_pg_ga
  have od_su_ag := Nat.lt_trans od_su_pg od_pg_ag
  have od_su_op := Nat.lt_trans od_su_pg od_pg_op
  have od_su_ki := Nat.lt_trans od_su_pg od_pg_ki
  have od_su_na := Nat.lt_trans od_su_pg od_pg_na
  have od_su_de := Nat.lt_trans od_su_pg od_pg_de
  have od_su_pa := Nat.lt_trans od_su_pg od_pg_pa
  have od_su_sb := Nat.lt_trans od_su_pg od_pg_sb
  have od_sa_ga := Nat.lt_trans od_sa_pg od_pg_ga
  have od_sa_ag := Nat.lt_trans od_sa_pg od_pg_ag
  have od_sa_op := Nat.lt_trans od_sa_pg od_pg_op
  have od_sa_ki := Nat.lt_trans od_sa_pg od_pg_ki
  have od_sa_na := Nat.lt_trans od_sa_pg od_pg_na
  have od_sa_de := Nat.lt_trans od_sa_pg od_pg_de
  have od_sa_pa := Nat.lt_trans od_sa_pg od_pg_pa
  have od_sa_sb := Nat.lt_trans od_sa_pg od_pg_sb
  have ge_ga := Nat.le_trans gpg (Nat.le_of_lt od_pg_ga)
  have ge_ag := Nat.le_trans gpg (Nat.le_of_lt od_pg_ag)
  have ge_op := Nat.le_trans gpg (Nat.le_of_lt od_pg_op)
  have ge_ki := Nat.le_trans gpg (Nat.le_of_lt od_pg_ki)
  have ge_na := Nat.le_trans gpg (Nat.le_of_lt od_pg_na)
  have ge_de := Nat.le_trans gpg (Nat.le_of_lt od_pg_de)
  have ge_pa := Nat.le_trans gpg (Nat.le_of_lt od_pg_pa)
  have ge_sb := Nat.le_trans gpg (Nat.le_of_lt od_pg_sb)
  obtain ⟨S1, S2, S3, S4, S5, S6, I7, E8, F9, hfd, hna, hnc, hnp⟩ := PT
  obtain ⟨F10, F11, F12, F13, F14, F15, F16, F17, F18, F19, F20, F21, F22, F23, F24, F25, F26, F27⟩ := PP
  obtain ⟨F28, F29, F30, F31, F32, F33, F34, F35⟩ := PG
  have K36 : Keep h h [pg, ga, ki, na, de, pa, sb] := Keep.refl _ _
  refine K.aloadN dAD_0 rfl rfl ?_
  refine K.getF dAD_1 (wd141 hw) F27 ?_
  refine K.if_ne dAD_4 (fun _ => ?_) (fun u => absurd rfl u)
  refine K.aloadN dAD_7 rfl rfl ?_
  refine K.getF dAD_8 (wd120 hw) F19 ?_
  refine K.aloadN dAD_11 rfl rfl ?_
  refine K.getF dAD_12 (wd97 hw) F13 ?_
  refine K.arraylength dAD_15 A1 ?_
  refine K.ic_ne dAD_16 (fun u => absurd u (fun q => absurd (own_inj (by omega) (by omega) q) (by omega))) (fun _ => ?_)
  refine K.getS dAD_36 (wd143 hw) S6 ?_
  refine K.iloadN dAD_39 rfl ?_
  refine K.bipush (7 : Int32) dAD_40 rfl ?_
  refine K.iand dAD_42 ?_
  rw [hx]
  refine K.aaload (v := .ref ek) dAD_43 I7 rfl (by decide) (by decide) hfd ?_
  refine K.astore #[.val (.ref pg), .val (.int x), .val (.int (0 : Int32)), .val (.int (e k)), .val (.int y), .val (.ref ek), .unset] dAD_44 rfl rfl ?_
  refine K.aloadN dAD_46 rfl rfl ?_
  refine K.getF dAD_47 (wd97 hw) F13 ?_
  refine K.aloadN dAD_50 rfl rfl ?_
  refine K.getF dAD_51 (wd120 hw) F19 ?_
  refine K.iloadN dAD_54 rfl ?_
  refine K.i2b dAD_55 ?_
  refine K.bastore dAD_56 A1 (own_nn (by omega)) ((own_lt (by omega) (by omega)).mpr (by omega)) ge_ki (fun h37 W38 A39 => ?_)
  have K40 := K36.wr W38 (Or.inl (List.mem_of_getElem? (i := 2) rfl))
  have S41 := S1.wr W38
  have S42 := S2.wr W38
  have S43 := S3.wr W38
  have S44 := S4.wr W38
  have S45 := S5.wr W38
  have S46 := S6.wr W38
  have I47 := I7.other W38 (Nat.ne_of_lt od_kd_ki)
  have E48 := E8.wr W38
  have F49 := F9.other W38 (Or.inl (Nat.ne_of_lt od_ek_ki))
  have I50 := A2.other W38 (Nat.ne_of_gt od_ki_na)
  have I51 := A3.other W38 (Nat.ne_of_gt od_ki_de)
  have I52 := A4.other W38 (Nat.ne_of_gt od_ki_pa)
  have I53 := A5.other W38 (Nat.ne_of_gt od_ki_sb)
  have E54 := PE.wr W38
  have E55 := PX.wr W38
  have F56 := F10.other W38 (Or.inl (Nat.ne_of_lt od_pg_ki))
  have F57 := F11.other W38 (Or.inl (Nat.ne_of_lt od_pg_ki))
  have F58 := F12.other W38 (Or.inl (Nat.ne_of_lt od_pg_ki))
  have F59 := F13.other W38 (Or.inl (Nat.ne_of_lt od_pg_ki))
  have F60 := F14.other W38 (Or.inl (Nat.ne_of_lt od_pg_ki))
  have F61 := F15.other W38 (Or.inl (Nat.ne_of_lt od_pg_ki))
  have F62 := F16.other W38 (Or.inl (Nat.ne_of_lt od_pg_ki))
  have F63 := F17.other W38 (Or.inl (Nat.ne_of_lt od_pg_ki))
  have F64 := F18.other W38 (Or.inl (Nat.ne_of_lt od_pg_ki))
  have F65 := F19.other W38 (Or.inl (Nat.ne_of_lt od_pg_ki))
  have F66 := F20.other W38 (Or.inl (Nat.ne_of_lt od_pg_ki))
  have F67 := F21.other W38 (Or.inl (Nat.ne_of_lt od_pg_ki))
  have F68 := F22.other W38 (Or.inl (Nat.ne_of_lt od_pg_ki))
  have F69 := F23.other W38 (Or.inl (Nat.ne_of_lt od_pg_ki))
  have F70 := F24.other W38 (Or.inl (Nat.ne_of_lt od_pg_ki))
  have F71 := F25.other W38 (Or.inl (Nat.ne_of_lt od_pg_ki))
  have F72 := F26.other W38 (Or.inl (Nat.ne_of_lt od_pg_ki))
  have F73 := F27.other W38 (Or.inl (Nat.ne_of_lt od_pg_ki))
  have F74 := F28.other W38 (Or.inl (Nat.ne_of_lt od_ga_ki))
  have F75 := F29.other W38 (Or.inl (Nat.ne_of_lt od_ga_ki))
  have F76 := F30.other W38 (Or.inl (Nat.ne_of_lt od_ga_ki))
  have F77 := F31.other W38 (Or.inl (Nat.ne_of_lt od_ga_ki))
  have F78 := F32.other W38 (Or.inl (Nat.ne_of_lt od_ga_ki))
  have F79 := F33.other W38 (Or.inl (Nat.ne_of_lt od_ga_ki))
  have F80 := F34.other W38 (Or.inl (Nat.ne_of_lt od_ga_ki))
  have F81 := F35.other W38 (Or.inl (Nat.ne_of_lt od_ga_ki))
  refine K.aloadN dAD_57 rfl rfl ?_
  refine K.getF dAD_58 (wd99 hw) F60 ?_
  refine K.aloadN dAD_61 rfl rfl ?_
  refine K.getF dAD_62 (wd120 hw) F65 ?_
  refine K.iloadN dAD_65 rfl ?_
  refine K.iastore dAD_66 I50 (own_nn (by omega)) ((own_lt (by omega) (by omega)).mpr (by omega)) ge_na (fun h82 W83 A84 => ?_)
  have K85 := K40.wr W83 (Or.inl (List.mem_of_getElem? (i := 3) rfl))
  have S86 := S41.wr W83
  have S87 := S42.wr W83
  have S88 := S43.wr W83
  have S89 := S44.wr W83
  have S90 := S45.wr W83
  have S91 := S46.wr W83
  have I92 := I47.other W83 (Nat.ne_of_lt od_kd_na)
  have E93 := E48.wr W83
  have F94 := F49.other W83 (Or.inl (Nat.ne_of_lt od_ek_na))
  have I95 := A39.other W83 (Nat.ne_of_lt od_ki_na)
  have I96 := I51.other W83 (Nat.ne_of_gt od_na_de)
  have I97 := I52.other W83 (Nat.ne_of_gt od_na_pa)
  have I98 := I53.other W83 (Nat.ne_of_gt od_na_sb)
  have E99 := E54.wr W83
  have E100 := E55.wr W83
  have F101 := F56.other W83 (Or.inl (Nat.ne_of_lt od_pg_na))
  have F102 := F57.other W83 (Or.inl (Nat.ne_of_lt od_pg_na))
  have F103 := F58.other W83 (Or.inl (Nat.ne_of_lt od_pg_na))
  have F104 := F59.other W83 (Or.inl (Nat.ne_of_lt od_pg_na))
  have F105 := F60.other W83 (Or.inl (Nat.ne_of_lt od_pg_na))
  have F106 := F61.other W83 (Or.inl (Nat.ne_of_lt od_pg_na))
  have F107 := F62.other W83 (Or.inl (Nat.ne_of_lt od_pg_na))
  have F108 := F63.other W83 (Or.inl (Nat.ne_of_lt od_pg_na))
  have F109 := F64.other W83 (Or.inl (Nat.ne_of_lt od_pg_na))
  have F110 := F65.other W83 (Or.inl (Nat.ne_of_lt od_pg_na))
  have F111 := F66.other W83 (Or.inl (Nat.ne_of_lt od_pg_na))
  have F112 := F67.other W83 (Or.inl (Nat.ne_of_lt od_pg_na))
  have F113 := F68.other W83 (Or.inl (Nat.ne_of_lt od_pg_na))
  have F114 := F69.other W83 (Or.inl (Nat.ne_of_lt od_pg_na))
  have F115 := F70.other W83 (Or.inl (Nat.ne_of_lt od_pg_na))
  have F116 := F71.other W83 (Or.inl (Nat.ne_of_lt od_pg_na))
  have F117 := F72.other W83 (Or.inl (Nat.ne_of_lt od_pg_na))
  have F118 := F73.other W83 (Or.inl (Nat.ne_of_lt od_pg_na))
  have F119 := F74.other W83 (Or.inl (Nat.ne_of_lt od_ga_na))
  have F120 := F75.other W83 (Or.inl (Nat.ne_of_lt od_ga_na))
  have F121 := F76.other W83 (Or.inl (Nat.ne_of_lt od_ga_na))
  have F122 := F77.other W83 (Or.inl (Nat.ne_of_lt od_ga_na))
  have F123 := F78.other W83 (Or.inl (Nat.ne_of_lt od_ga_na))
  have F124 := F79.other W83 (Or.inl (Nat.ne_of_lt od_ga_na))
  have F125 := F80.other W83 (Or.inl (Nat.ne_of_lt od_ga_na))
  have F126 := F81.other W83 (Or.inl (Nat.ne_of_lt od_ga_na))
  refine K.aloadN dAD_67 rfl rfl ?_
  refine K.getF dAD_68 (wd101 hw) F106 ?_
  refine K.aloadN dAD_71 rfl rfl ?_
  refine K.getF dAD_72 (wd120 hw) F110 ?_
  refine K.iloadN dAD_75 rfl ?_
  refine K.iastore dAD_76 I96 (own_nn (by omega)) ((own_lt (by omega) (by omega)).mpr (by omega)) ge_de (fun h127 W128 A129 => ?_)
  have K130 := K85.wr W128 (Or.inl (List.mem_of_getElem? (i := 4) rfl))
  have S131 := S86.wr W128
  have S132 := S87.wr W128
  have S133 := S88.wr W128
  have S134 := S89.wr W128
  have S135 := S90.wr W128
  have S136 := S91.wr W128
  have I137 := I92.other W128 (Nat.ne_of_lt od_kd_de)
  have E138 := E93.wr W128
  have F139 := F94.other W128 (Or.inl (Nat.ne_of_lt od_ek_de))
  have I140 := I95.other W128 (Nat.ne_of_lt od_ki_de)
  have I141 := A84.other W128 (Nat.ne_of_lt od_na_de)
  have I142 := I97.other W128 (Nat.ne_of_gt od_de_pa)
  have I143 := I98.other W128 (Nat.ne_of_gt od_de_sb)
  have E144 := E99.wr W128
  have E145 := E100.wr W128
  have F146 := F101.other W128 (Or.inl (Nat.ne_of_lt od_pg_de))
  have F147 := F102.other W128 (Or.inl (Nat.ne_of_lt od_pg_de))
  have F148 := F103.other W128 (Or.inl (Nat.ne_of_lt od_pg_de))
  have F149 := F104.other W128 (Or.inl (Nat.ne_of_lt od_pg_de))
  have F150 := F105.other W128 (Or.inl (Nat.ne_of_lt od_pg_de))
  have F151 := F106.other W128 (Or.inl (Nat.ne_of_lt od_pg_de))
  have F152 := F107.other W128 (Or.inl (Nat.ne_of_lt od_pg_de))
  have F153 := F108.other W128 (Or.inl (Nat.ne_of_lt od_pg_de))
  have F154 := F109.other W128 (Or.inl (Nat.ne_of_lt od_pg_de))
  have F155 := F110.other W128 (Or.inl (Nat.ne_of_lt od_pg_de))
  have F156 := F111.other W128 (Or.inl (Nat.ne_of_lt od_pg_de))
  have F157 := F112.other W128 (Or.inl (Nat.ne_of_lt od_pg_de))
  have F158 := F113.other W128 (Or.inl (Nat.ne_of_lt od_pg_de))
  have F159 := F114.other W128 (Or.inl (Nat.ne_of_lt od_pg_de))
  have F160 := F115.other W128 (Or.inl (Nat.ne_of_lt od_pg_de))
  have F161 := F116.other W128 (Or.inl (Nat.ne_of_lt od_pg_de))
  have F162 := F117.other W128 (Or.inl (Nat.ne_of_lt od_pg_de))
  have F163 := F118.other W128 (Or.inl (Nat.ne_of_lt od_pg_de))
  have F164 := F119.other W128 (Or.inl (Nat.ne_of_lt od_ga_de))
  have F165 := F120.other W128 (Or.inl (Nat.ne_of_lt od_ga_de))
  have F166 := F121.other W128 (Or.inl (Nat.ne_of_lt od_ga_de))
  have F167 := F122.other W128 (Or.inl (Nat.ne_of_lt od_ga_de))
  have F168 := F123.other W128 (Or.inl (Nat.ne_of_lt od_ga_de))
  have F169 := F124.other W128 (Or.inl (Nat.ne_of_lt od_ga_de))
  have F170 := F125.other W128 (Or.inl (Nat.ne_of_lt od_ga_de))
  have F171 := F126.other W128 (Or.inl (Nat.ne_of_lt od_ga_de))
  have A172 := A129.congr (own_dput e (by omega) _)
  refine K.aloadN dAD_77 rfl rfl ?_
  refine K.getF dAD_78 (wd103 hw) F152 ?_
  refine K.aloadN dAD_81 rfl rfl ?_
  refine K.getF dAD_82 (wd120 hw) F155 ?_
  refine K.iload dAD_85 rfl ?_
  refine K.iastore dAD_87 I142 (own_nn (by omega)) ((own_lt (by omega) (by omega)).mpr (by omega)) ge_pa (fun h173 W174 A175 => ?_)
  have K176 := K130.wr W174 (Or.inl (List.mem_of_getElem? (i := 5) rfl))
  have S177 := S131.wr W174
  have S178 := S132.wr W174
  have S179 := S133.wr W174
  have S180 := S134.wr W174
  have S181 := S135.wr W174
  have S182 := S136.wr W174
  have I183 := I137.other W174 (Nat.ne_of_lt od_kd_pa)
  have E184 := E138.wr W174
  have F185 := F139.other W174 (Or.inl (Nat.ne_of_lt od_ek_pa))
  have I186 := I140.other W174 (Nat.ne_of_lt od_ki_pa)
  have I187 := I141.other W174 (Nat.ne_of_lt od_na_pa)
  have I188 := A172.other W174 (Nat.ne_of_lt od_de_pa)
  have I189 := I143.other W174 (Nat.ne_of_gt od_pa_sb)
  have E190 := E144.wr W174
  have E191 := E145.wr W174
  have F192 := F146.other W174 (Or.inl (Nat.ne_of_lt od_pg_pa))
  have F193 := F147.other W174 (Or.inl (Nat.ne_of_lt od_pg_pa))
  have F194 := F148.other W174 (Or.inl (Nat.ne_of_lt od_pg_pa))
  have F195 := F149.other W174 (Or.inl (Nat.ne_of_lt od_pg_pa))
  have F196 := F150.other W174 (Or.inl (Nat.ne_of_lt od_pg_pa))
  have F197 := F151.other W174 (Or.inl (Nat.ne_of_lt od_pg_pa))
  have F198 := F152.other W174 (Or.inl (Nat.ne_of_lt od_pg_pa))
  have F199 := F153.other W174 (Or.inl (Nat.ne_of_lt od_pg_pa))
  have F200 := F154.other W174 (Or.inl (Nat.ne_of_lt od_pg_pa))
  have F201 := F155.other W174 (Or.inl (Nat.ne_of_lt od_pg_pa))
  have F202 := F156.other W174 (Or.inl (Nat.ne_of_lt od_pg_pa))
  have F203 := F157.other W174 (Or.inl (Nat.ne_of_lt od_pg_pa))
  have F204 := F158.other W174 (Or.inl (Nat.ne_of_lt od_pg_pa))
  have F205 := F159.other W174 (Or.inl (Nat.ne_of_lt od_pg_pa))
  have F206 := F160.other W174 (Or.inl (Nat.ne_of_lt od_pg_pa))
  have F207 := F161.other W174 (Or.inl (Nat.ne_of_lt od_pg_pa))
  have F208 := F162.other W174 (Or.inl (Nat.ne_of_lt od_pg_pa))
  have F209 := F163.other W174 (Or.inl (Nat.ne_of_lt od_pg_pa))
  have F210 := F164.other W174 (Or.inl (Nat.ne_of_lt od_ga_pa))
  have F211 := F165.other W174 (Or.inl (Nat.ne_of_lt od_ga_pa))
  have F212 := F166.other W174 (Or.inl (Nat.ne_of_lt od_ga_pa))
  have F213 := F167.other W174 (Or.inl (Nat.ne_of_lt od_ga_pa))
  have F214 := F168.other W174 (Or.inl (Nat.ne_of_lt od_ga_pa))
  have F215 := F169.other W174 (Or.inl (Nat.ne_of_lt od_ga_pa))
  have F216 := F170.other W174 (Or.inl (Nat.ne_of_lt od_ga_pa))
  have F217 := F171.other W174 (Or.inl (Nat.ne_of_lt od_ga_pa))
  refine K.aload dAD_88 rfl rfl ?_
  refine K.getS dAD_90 (wd88 hw) S177 ?_
  refine K.ac_eq dAD_93 (fun _ => ?_) (fun u => absurd rfl u)
  refine K.iconst (1 : Int32) dAD_104 rfl ?_
  refine K.goto dAD_105 ?_
  refine K.istore #[.val (.ref pg), .val (.int x), .val (.int (0 : Int32)), .val (.int (e k)), .val (.int y), .val (.ref ek), .val (.int (1 : Int32))] dAD_109 rfl ?_
  refine K.aloadN dAD_111 rfl rfl ?_
  refine K.getF dAD_112 (wd105 hw) F199 ?_
  refine K.aloadN dAD_115 rfl rfl ?_
  refine K.getF dAD_116 (wd120 hw) F201 ?_
  refine K.iload dAD_119 rfl ?_
  refine K.if_eq dAD_121 (fun u => absurd u (by decide)) (fun _ => ?_)
  refine K.iconst (-1 : Int32) dAD_124 rfl ?_
  refine K.goto dAD_125 ?_
  refine K.iastore dAD_139 I189 (own_nn (by omega)) ((own_lt (by omega) (by omega)).mpr (by omega)) ge_sb (fun h218 W219 A220 => ?_)
  have K221 := K176.wr W219 (Or.inl (List.mem_of_getElem? (i := 6) rfl))
  have S222 := S177.wr W219
  have S223 := S178.wr W219
  have S224 := S179.wr W219
  have S225 := S180.wr W219
  have S226 := S181.wr W219
  have S227 := S182.wr W219
  have I228 := I183.other W219 (Nat.ne_of_lt od_kd_sb)
  have E229 := E184.wr W219
  have F230 := F185.other W219 (Or.inl (Nat.ne_of_lt od_ek_sb))
  have I231 := I186.other W219 (Nat.ne_of_lt od_ki_sb)
  have I232 := I187.other W219 (Nat.ne_of_lt od_na_sb)
  have I233 := I188.other W219 (Nat.ne_of_lt od_de_sb)
  have I234 := A175.other W219 (Nat.ne_of_lt od_pa_sb)
  have E235 := E190.wr W219
  have E236 := E191.wr W219
  have F237 := F192.other W219 (Or.inl (Nat.ne_of_lt od_pg_sb))
  have F238 := F193.other W219 (Or.inl (Nat.ne_of_lt od_pg_sb))
  have F239 := F194.other W219 (Or.inl (Nat.ne_of_lt od_pg_sb))
  have F240 := F195.other W219 (Or.inl (Nat.ne_of_lt od_pg_sb))
  have F241 := F196.other W219 (Or.inl (Nat.ne_of_lt od_pg_sb))
  have F242 := F197.other W219 (Or.inl (Nat.ne_of_lt od_pg_sb))
  have F243 := F198.other W219 (Or.inl (Nat.ne_of_lt od_pg_sb))
  have F244 := F199.other W219 (Or.inl (Nat.ne_of_lt od_pg_sb))
  have F245 := F200.other W219 (Or.inl (Nat.ne_of_lt od_pg_sb))
  have F246 := F201.other W219 (Or.inl (Nat.ne_of_lt od_pg_sb))
  have F247 := F202.other W219 (Or.inl (Nat.ne_of_lt od_pg_sb))
  have F248 := F203.other W219 (Or.inl (Nat.ne_of_lt od_pg_sb))
  have F249 := F204.other W219 (Or.inl (Nat.ne_of_lt od_pg_sb))
  have F250 := F205.other W219 (Or.inl (Nat.ne_of_lt od_pg_sb))
  have F251 := F206.other W219 (Or.inl (Nat.ne_of_lt od_pg_sb))
  have F252 := F207.other W219 (Or.inl (Nat.ne_of_lt od_pg_sb))
  have F253 := F208.other W219 (Or.inl (Nat.ne_of_lt od_pg_sb))
  have F254 := F209.other W219 (Or.inl (Nat.ne_of_lt od_pg_sb))
  have F255 := F210.other W219 (Or.inl (Nat.ne_of_lt od_ga_sb))
  have F256 := F211.other W219 (Or.inl (Nat.ne_of_lt od_ga_sb))
  have F257 := F212.other W219 (Or.inl (Nat.ne_of_lt od_ga_sb))
  have F258 := F213.other W219 (Or.inl (Nat.ne_of_lt od_ga_sb))
  have F259 := F214.other W219 (Or.inl (Nat.ne_of_lt od_ga_sb))
  have F260 := F215.other W219 (Or.inl (Nat.ne_of_lt od_ga_sb))
  have F261 := F216.other W219 (Or.inl (Nat.ne_of_lt od_ga_sb))
  have F262 := F217.other W219 (Or.inl (Nat.ne_of_lt od_ga_sb))
  refine K.aloadN dAD_140 rfl rfl ?_
  refine K.getF dAD_141 (wd62 hw) F245 ?_
  refine K.aload dAD_144 rfl rfl ?_
  refine K.iloadN dAD_146 rfl ?_
  refine K.aloadN dAD_147 rfl rfl ?_
  refine K.aloadN dAD_148 rfl rfl ?_
  refine K.getF dAD_149 (wd120 hw) F246 ?_
  refine K.callV (a := pg) [.int (Int32.ofNat k)] [.int (e k), .ref ek, .ref ga] 3 0 0 dAD_152 (wd145 hw) (wd146 hw) (wd148 hw) (wd147 hw) (wd53 hw) (wd149 hw) (by decide) (rmAY l Z a0 hw pg ki kd ek aq oq fd (fun k_ => if k_ = Int32.ofNat k then .int x.toInt8.toInt32.toInt8.toInt32 else fk k_) k n _ h218 n0 E235 F240 I231 S227 I228 hk hn (if_pos rfl) hx2 hfd S223 S226 hna) E235 rfl (lenOf pd_13 rfl) rfl (Nat.le_of_eq rfl) (by decide) (by decide) rfl rfl (by decide) (by decide) (goP ?_)
  refine K.callV (a := ga) [.ref ek, .int (e k), .ref oq] [] 0 0 0 dAD_155 (wd160 hw) (wd161 hw) (wd163 hw) (wd162 hw) (wd9 hw) (wd164 hw) (by decide) (rmSA l Z a0 hw ga ag ek cq pq oq k ld lk lp (e k) h218 n0 E236 ge_ga ⟨F255, F256, F257, F258, F259, F260, F261, F262⟩ S222 S224 S225 S226 hnc hnp hx1 (by omega)) E236 rfl (lenOf pd_14 rfl) rfl (Nat.le_of_eq rfl) (by decide) (by decide) rfl rfl (by decide) (by decide) (goU fun h263 q264 => ?_)
  obtain ⟨K265, G266⟩ := q264
  have K267 := K221.trans K265 (allS (Or.inl (List.mem_of_getElem? (i := 1) rfl)) all0)
  have S268 := staK S222 K265 (allS (plE E236) all0)
  have S269 := staK S223 K265 (allS (plE E236) all0)
  have S270 := staK S224 K265 (allS (plE E236) all0)
  have S271 := staK S225 K265 (allS (plE E236) all0)
  have S272 := staK S226 K265 (allS (plE E236) all0)
  have S273 := staK S227 K265 (allS (plE E236) all0)
  have I274 := I228.keep K265 (ninS (Nat.ne_of_lt od_kd_ga) nin0)
  have E275 := E229.keep K265
  have F276 := F230.keep K265 (ninS (Nat.ne_of_lt od_ek_ga) nin0)
  have I277 := I231.keep K265 (ninS (Nat.ne_of_gt od_ga_ki) nin0)
  have I278 := I232.keep K265 (ninS (Nat.ne_of_gt od_ga_na) nin0)
  have I279 := I233.keep K265 (ninS (Nat.ne_of_gt od_ga_de) nin0)
  have I280 := I234.keep K265 (ninS (Nat.ne_of_gt od_ga_pa) nin0)
  have I281 := A220.keep K265 (ninS (Nat.ne_of_gt od_ga_sb) nin0)
  have E282 := E235.keep K265
  have E283 := E236.keep K265
  have F284 := F237.keep K265 (ninS (Nat.ne_of_lt od_pg_ga) nin0)
  have F285 := F238.keep K265 (ninS (Nat.ne_of_lt od_pg_ga) nin0)
  have F286 := F239.keep K265 (ninS (Nat.ne_of_lt od_pg_ga) nin0)
  have F287 := F240.keep K265 (ninS (Nat.ne_of_lt od_pg_ga) nin0)
  have F288 := F241.keep K265 (ninS (Nat.ne_of_lt od_pg_ga) nin0)
  have F289 := F242.keep K265 (ninS (Nat.ne_of_lt od_pg_ga) nin0)
  have F290 := F243.keep K265 (ninS (Nat.ne_of_lt od_pg_ga) nin0)
  have F291 := F244.keep K265 (ninS (Nat.ne_of_lt od_pg_ga) nin0)
  have F292 := F245.keep K265 (ninS (Nat.ne_of_lt od_pg_ga) nin0)
  have F293 := F246.keep K265 (ninS (Nat.ne_of_lt od_pg_ga) nin0)
  have F294 := F247.keep K265 (ninS (Nat.ne_of_lt od_pg_ga) nin0)
  have F295 := F248.keep K265 (ninS (Nat.ne_of_lt od_pg_ga) nin0)
  have F296 := F249.keep K265 (ninS (Nat.ne_of_lt od_pg_ga) nin0)
  have F297 := F250.keep K265 (ninS (Nat.ne_of_lt od_pg_ga) nin0)
  have F298 := F251.keep K265 (ninS (Nat.ne_of_lt od_pg_ga) nin0)
  have F299 := F252.keep K265 (ninS (Nat.ne_of_lt od_pg_ga) nin0)
  have F300 := F253.keep K265 (ninS (Nat.ne_of_lt od_pg_ga) nin0)
  have F301 := F254.keep K265 (ninS (Nat.ne_of_lt od_pg_ga) nin0)
  obtain ⟨F302, F303, F304, F305, F306, F307, F308, F309⟩ := G266
  refine K.aloadN dAD_158 rfl rfl ?_
  refine K.aload dAD_159 rfl rfl ?_
  refine K.putF dAD_161 (wd79 hw) F294 E282 (Or.inl (wd80 hw)) (wd52 hw) (ty := (.object "com/example/horatius/horatius/core/NodeKind")) (by decide) rfl rfl gpg (fun h310 W311 => ?_)
  have K312 := K267.wr W311 (Or.inl (List.mem_of_getElem? (i := 0) rfl))
  have S313 := S268.wr W311
  have S314 := S269.wr W311
  have S315 := S270.wr W311
  have S316 := S271.wr W311
  have S317 := S272.wr W311
  have S318 := S273.wr W311
  have I319 := I274.other W311 (Nat.ne_of_lt od_kd_pg)
  have E320 := E275.wr W311
  have F321 := F276.other W311 (Or.inl (Nat.ne_of_lt od_ek_pg))
  have I322 := I277.other W311 (Nat.ne_of_gt od_pg_ki)
  have I323 := I278.other W311 (Nat.ne_of_gt od_pg_na)
  have I324 := I279.other W311 (Nat.ne_of_gt od_pg_de)
  have I325 := I280.other W311 (Nat.ne_of_gt od_pg_pa)
  have I326 := I281.other W311 (Nat.ne_of_gt od_pg_sb)
  have E327 := E282.wr W311
  have E328 := E283.wr W311
  have F329 := F284.other W311 (Or.inr (RoadKit.slot_ne (Or.inr (wd69 hw)) (Or.inl (wd80 hw)) (by decide) (t := .int) (t' := (.object "com/example/horatius/horatius/core/NodeKind")) (by decide) (by decide)))
  have F330 := F285.other W311 (Or.inr (RoadKit.slot_ne (Or.inr (wd71 hw)) (Or.inl (wd80 hw)) (by decide) (t := (.object "com/example/horatius/horatius/core/PageSummary")) (t' := (.object "com/example/horatius/horatius/core/NodeKind")) (by decide) (by decide)))
  have F331 := F286.other W311 (Or.inr (RoadKit.slot_ne (Or.inr (wd73 hw)) (Or.inl (wd80 hw)) (by decide) (t := .int) (t' := (.object "com/example/horatius/horatius/core/NodeKind")) (by decide) (by decide)))
  have F332 := F287.other W311 (Or.inr (RoadKit.slot_ne (Or.inr (wd98 hw)) (Or.inl (wd80 hw)) (by decide) (t := (.array .byte)) (t' := (.object "com/example/horatius/horatius/core/NodeKind")) (by decide) (by decide)))
  have F333 := F288.other W311 (Or.inr (RoadKit.slot_ne (Or.inr (wd100 hw)) (Or.inl (wd80 hw)) (by decide) (t := (.array .int)) (t' := (.object "com/example/horatius/horatius/core/NodeKind")) (by decide) (by decide)))
  have F334 := F289.other W311 (Or.inr (RoadKit.slot_ne (Or.inr (wd102 hw)) (Or.inl (wd80 hw)) (by decide) (t := (.array .int)) (t' := (.object "com/example/horatius/horatius/core/NodeKind")) (by decide) (by decide)))
  have F335 := F290.other W311 (Or.inr (RoadKit.slot_ne (Or.inr (wd104 hw)) (Or.inl (wd80 hw)) (by decide) (t := (.array .int)) (t' := (.object "com/example/horatius/horatius/core/NodeKind")) (by decide) (by decide)))
  have F336 := F291.other W311 (Or.inr (RoadKit.slot_ne (Or.inr (wd106 hw)) (Or.inl (wd80 hw)) (by decide) (t := (.array .int)) (t' := (.object "com/example/horatius/horatius/core/NodeKind")) (by decide) (by decide)))
  have F337 := F292.other W311 (Or.inr (RoadKit.slot_ne (Or.inr (wd63 hw)) (Or.inl (wd80 hw)) (by decide) (t := (.object "com/example/horatius/horatius/core/PageSummary")) (t' := (.object "com/example/horatius/horatius/core/NodeKind")) (by decide) (by decide)))
  have F338 := F293.other W311 (Or.inr (RoadKit.slot_ne (Or.inl (wd121 hw)) (Or.inl (wd80 hw)) (by decide) (t := .int) (t' := (.object "com/example/horatius/horatius/core/NodeKind")) (by decide) (by decide)))
  have F339 := F294.same W311
  have F340 := F295.other W311 (Or.inr (RoadKit.slot_ne (Or.inl (wd87 hw)) (Or.inl (wd80 hw)) (by decide) (t := .int) (t' := (.object "com/example/horatius/horatius/core/NodeKind")) (by decide) (by decide)))
  have F341 := F296.other W311 (Or.inr (RoadKit.slot_ne (Or.inl (wd90 hw)) (Or.inl (wd80 hw)) (by decide) (t := .int) (t' := (.object "com/example/horatius/horatius/core/NodeKind")) (by decide) (by decide)))
  have F342 := F297.other W311 (Or.inr (RoadKit.slot_ne (Or.inl (wd65 hw)) (Or.inl (wd80 hw)) (by decide) (t := (.array .int)) (t' := (.object "com/example/horatius/horatius/core/NodeKind")) (by decide) (by decide)))
  have F343 := F298.other W311 (Or.inr (RoadKit.slot_ne (Or.inl (wd123 hw)) (Or.inl (wd80 hw)) (by decide) (t := .int) (t' := (.object "com/example/horatius/horatius/core/NodeKind")) (by decide) (by decide)))
  have F344 := F299.other W311 (Or.inr (RoadKit.slot_ne (Or.inl (wd208 hw)) (Or.inl (wd80 hw)) (by decide) (t := (.array .int)) (t' := (.object "com/example/horatius/horatius/core/NodeKind")) (by decide) (by decide)))
  have F345 := F300.other W311 (Or.inr (RoadKit.slot_ne (Or.inl (wd210 hw)) (Or.inl (wd80 hw)) (by decide) (t := (.array .int)) (t' := (.object "com/example/horatius/horatius/core/NodeKind")) (by decide) (by decide)))
  have F346 := F301.other W311 (Or.inr (RoadKit.slot_ne (Or.inl (wd142 hw)) (Or.inl (wd80 hw)) (by decide) (t := .boolean) (t' := (.object "com/example/horatius/horatius/core/NodeKind")) (by decide) (by decide)))
  have F347 := F302.other W311 (Or.inl (Nat.ne_of_gt od_pg_ga))
  have F348 := F303.other W311 (Or.inl (Nat.ne_of_gt od_pg_ga))
  have F349 := F304.other W311 (Or.inl (Nat.ne_of_gt od_pg_ga))
  have F350 := F305.other W311 (Or.inl (Nat.ne_of_gt od_pg_ga))
  have F351 := F306.other W311 (Or.inl (Nat.ne_of_gt od_pg_ga))
  have F352 := F307.other W311 (Or.inl (Nat.ne_of_gt od_pg_ga))
  have F353 := F308.other W311 (Or.inl (Nat.ne_of_gt od_pg_ga))
  have F354 := F309.other W311 (Or.inl (Nat.ne_of_gt od_pg_ga))
  refine K.aloadN dAD_164 rfl rfl ?_
  refine K.iloadN dAD_165 rfl ?_
  refine K.putF dAD_166 (wd86 hw) F340 E327 (Or.inl (wd87 hw)) (wd52 hw) (ty := .int) (by decide) rfl rfl gpg (fun h355 W356 => ?_)
  have K357 := K312.wr W356 (Or.inl (List.mem_of_getElem? (i := 0) rfl))
  have S358 := S313.wr W356
  have S359 := S314.wr W356
  have S360 := S315.wr W356
  have S361 := S316.wr W356
  have S362 := S317.wr W356
  have S363 := S318.wr W356
  have I364 := I319.other W356 (Nat.ne_of_lt od_kd_pg)
  have E365 := E320.wr W356
  have F366 := F321.other W356 (Or.inl (Nat.ne_of_lt od_ek_pg))
  have I367 := I322.other W356 (Nat.ne_of_gt od_pg_ki)
  have I368 := I323.other W356 (Nat.ne_of_gt od_pg_na)
  have I369 := I324.other W356 (Nat.ne_of_gt od_pg_de)
  have I370 := I325.other W356 (Nat.ne_of_gt od_pg_pa)
  have I371 := I326.other W356 (Nat.ne_of_gt od_pg_sb)
  have E372 := E327.wr W356
  have E373 := E328.wr W356
  have F374 := F329.other W356 (Or.inr (RoadKit.slot_ne (Or.inr (wd69 hw)) (Or.inl (wd87 hw)) (by decide) (t := .int) (t' := .int) (by decide) (by decide)))
  have F375 := F330.other W356 (Or.inr (RoadKit.slot_ne (Or.inr (wd71 hw)) (Or.inl (wd87 hw)) (by decide) (t := (.object "com/example/horatius/horatius/core/PageSummary")) (t' := .int) (by decide) (by decide)))
  have F376 := F331.other W356 (Or.inr (RoadKit.slot_ne (Or.inr (wd73 hw)) (Or.inl (wd87 hw)) (by decide) (t := .int) (t' := .int) (by decide) (by decide)))
  have F377 := F332.other W356 (Or.inr (RoadKit.slot_ne (Or.inr (wd98 hw)) (Or.inl (wd87 hw)) (by decide) (t := (.array .byte)) (t' := .int) (by decide) (by decide)))
  have F378 := F333.other W356 (Or.inr (RoadKit.slot_ne (Or.inr (wd100 hw)) (Or.inl (wd87 hw)) (by decide) (t := (.array .int)) (t' := .int) (by decide) (by decide)))
  have F379 := F334.other W356 (Or.inr (RoadKit.slot_ne (Or.inr (wd102 hw)) (Or.inl (wd87 hw)) (by decide) (t := (.array .int)) (t' := .int) (by decide) (by decide)))
  have F380 := F335.other W356 (Or.inr (RoadKit.slot_ne (Or.inr (wd104 hw)) (Or.inl (wd87 hw)) (by decide) (t := (.array .int)) (t' := .int) (by decide) (by decide)))
  have F381 := F336.other W356 (Or.inr (RoadKit.slot_ne (Or.inr (wd106 hw)) (Or.inl (wd87 hw)) (by decide) (t := (.array .int)) (t' := .int) (by decide) (by decide)))
  have F382 := F337.other W356 (Or.inr (RoadKit.slot_ne (Or.inr (wd63 hw)) (Or.inl (wd87 hw)) (by decide) (t := (.object "com/example/horatius/horatius/core/PageSummary")) (t' := .int) (by decide) (by decide)))
  have F383 := F338.other W356 (Or.inr (RoadKit.slot_ne (Or.inl (wd121 hw)) (Or.inl (wd87 hw)) (by decide) (t := .int) (t' := .int) (by decide) (by decide)))
  have F384 := F339.other W356 (Or.inr (RoadKit.slot_ne (Or.inl (wd80 hw)) (Or.inl (wd87 hw)) (by decide) (t := (.object "com/example/horatius/horatius/core/NodeKind")) (t' := .int) (by decide) (by decide)))
  have F385 := F340.same W356
  have F386 := F341.other W356 (Or.inr (RoadKit.slot_ne (Or.inl (wd90 hw)) (Or.inl (wd87 hw)) (by decide) (t := .int) (t' := .int) (by decide) (by decide)))
  have F387 := F342.other W356 (Or.inr (RoadKit.slot_ne (Or.inl (wd65 hw)) (Or.inl (wd87 hw)) (by decide) (t := (.array .int)) (t' := .int) (by decide) (by decide)))
  have F388 := F343.other W356 (Or.inr (RoadKit.slot_ne (Or.inl (wd123 hw)) (Or.inl (wd87 hw)) (by decide) (t := .int) (t' := .int) (by decide) (by decide)))
  have F389 := F344.other W356 (Or.inr (RoadKit.slot_ne (Or.inl (wd208 hw)) (Or.inl (wd87 hw)) (by decide) (t := (.array .int)) (t' := .int) (by decide) (by decide)))
  have F390 := F345.other W356 (Or.inr (RoadKit.slot_ne (Or.inl (wd210 hw)) (Or.inl (wd87 hw)) (by decide) (t := (.array .int)) (t' := .int) (by decide) (by decide)))
  have F391 := F346.other W356 (Or.inr (RoadKit.slot_ne (Or.inl (wd142 hw)) (Or.inl (wd87 hw)) (by decide) (t := .boolean) (t' := .int) (by decide) (by decide)))
  have F392 := F347.other W356 (Or.inl (Nat.ne_of_gt od_pg_ga))
  have F393 := F348.other W356 (Or.inl (Nat.ne_of_gt od_pg_ga))
  have F394 := F349.other W356 (Or.inl (Nat.ne_of_gt od_pg_ga))
  have F395 := F350.other W356 (Or.inl (Nat.ne_of_gt od_pg_ga))
  have F396 := F351.other W356 (Or.inl (Nat.ne_of_gt od_pg_ga))
  have F397 := F352.other W356 (Or.inl (Nat.ne_of_gt od_pg_ga))
  have F398 := F353.other W356 (Or.inl (Nat.ne_of_gt od_pg_ga))
  have F399 := F354.other W356 (Or.inl (Nat.ne_of_gt od_pg_ga))
  refine K.aloadN dAD_169 rfl rfl ?_
  refine K.dup dAD_170 rfl ?_
  refine K.getF dAD_171 (wd120 hw) F383 ?_
  refine K.iconst (1 : Int32) dAD_174 rfl ?_
  refine K.iadd dAD_175 ?_
  rw [own_inc k]
  refine K.putF dAD_176 (wd120 hw) F383 E372 (Or.inl (wd121 hw)) (wd52 hw) (ty := .int) (by decide) rfl rfl gpg (fun h400 W401 => ?_)
  have K402 := K357.wr W401 (Or.inl (List.mem_of_getElem? (i := 0) rfl))
  have S403 := S358.wr W401
  have S404 := S359.wr W401
  have S405 := S360.wr W401
  have S406 := S361.wr W401
  have S407 := S362.wr W401
  have S408 := S363.wr W401
  have I409 := I364.other W401 (Nat.ne_of_lt od_kd_pg)
  have E410 := E365.wr W401
  have F411 := F366.other W401 (Or.inl (Nat.ne_of_lt od_ek_pg))
  have I412 := I367.other W401 (Nat.ne_of_gt od_pg_ki)
  have I413 := I368.other W401 (Nat.ne_of_gt od_pg_na)
  have I414 := I369.other W401 (Nat.ne_of_gt od_pg_de)
  have I415 := I370.other W401 (Nat.ne_of_gt od_pg_pa)
  have I416 := I371.other W401 (Nat.ne_of_gt od_pg_sb)
  have E417 := E372.wr W401
  have E418 := E373.wr W401
  have F419 := F374.other W401 (Or.inr (RoadKit.slot_ne (Or.inr (wd69 hw)) (Or.inl (wd121 hw)) (by decide) (t := .int) (t' := .int) (by decide) (by decide)))
  have F420 := F375.other W401 (Or.inr (RoadKit.slot_ne (Or.inr (wd71 hw)) (Or.inl (wd121 hw)) (by decide) (t := (.object "com/example/horatius/horatius/core/PageSummary")) (t' := .int) (by decide) (by decide)))
  have F421 := F376.other W401 (Or.inr (RoadKit.slot_ne (Or.inr (wd73 hw)) (Or.inl (wd121 hw)) (by decide) (t := .int) (t' := .int) (by decide) (by decide)))
  have F422 := F377.other W401 (Or.inr (RoadKit.slot_ne (Or.inr (wd98 hw)) (Or.inl (wd121 hw)) (by decide) (t := (.array .byte)) (t' := .int) (by decide) (by decide)))
  have F423 := F378.other W401 (Or.inr (RoadKit.slot_ne (Or.inr (wd100 hw)) (Or.inl (wd121 hw)) (by decide) (t := (.array .int)) (t' := .int) (by decide) (by decide)))
  have F424 := F379.other W401 (Or.inr (RoadKit.slot_ne (Or.inr (wd102 hw)) (Or.inl (wd121 hw)) (by decide) (t := (.array .int)) (t' := .int) (by decide) (by decide)))
  have F425 := F380.other W401 (Or.inr (RoadKit.slot_ne (Or.inr (wd104 hw)) (Or.inl (wd121 hw)) (by decide) (t := (.array .int)) (t' := .int) (by decide) (by decide)))
  have F426 := F381.other W401 (Or.inr (RoadKit.slot_ne (Or.inr (wd106 hw)) (Or.inl (wd121 hw)) (by decide) (t := (.array .int)) (t' := .int) (by decide) (by decide)))
  have F427 := F382.other W401 (Or.inr (RoadKit.slot_ne (Or.inr (wd63 hw)) (Or.inl (wd121 hw)) (by decide) (t := (.object "com/example/horatius/horatius/core/PageSummary")) (t' := .int) (by decide) (by decide)))
  have F428 := F383.same W401
  have F429 := F384.other W401 (Or.inr (RoadKit.slot_ne (Or.inl (wd80 hw)) (Or.inl (wd121 hw)) (by decide) (t := (.object "com/example/horatius/horatius/core/NodeKind")) (t' := .int) (by decide) (by decide)))
  have F430 := F385.other W401 (Or.inr (RoadKit.slot_ne (Or.inl (wd87 hw)) (Or.inl (wd121 hw)) (by decide) (t := .int) (t' := .int) (by decide) (by decide)))
  have F431 := F386.other W401 (Or.inr (RoadKit.slot_ne (Or.inl (wd90 hw)) (Or.inl (wd121 hw)) (by decide) (t := .int) (t' := .int) (by decide) (by decide)))
  have F432 := F387.other W401 (Or.inr (RoadKit.slot_ne (Or.inl (wd65 hw)) (Or.inl (wd121 hw)) (by decide) (t := (.array .int)) (t' := .int) (by decide) (by decide)))
  have F433 := F388.other W401 (Or.inr (RoadKit.slot_ne (Or.inl (wd123 hw)) (Or.inl (wd121 hw)) (by decide) (t := .int) (t' := .int) (by decide) (by decide)))
  have F434 := F389.other W401 (Or.inr (RoadKit.slot_ne (Or.inl (wd208 hw)) (Or.inl (wd121 hw)) (by decide) (t := (.array .int)) (t' := .int) (by decide) (by decide)))
  have F435 := F390.other W401 (Or.inr (RoadKit.slot_ne (Or.inl (wd210 hw)) (Or.inl (wd121 hw)) (by decide) (t := (.array .int)) (t' := .int) (by decide) (by decide)))
  have F436 := F391.other W401 (Or.inr (RoadKit.slot_ne (Or.inl (wd142 hw)) (Or.inl (wd121 hw)) (by decide) (t := .boolean) (t' := .int) (by decide) (by decide)))
  have F437 := F392.other W401 (Or.inl (Nat.ne_of_gt od_pg_ga))
  have F438 := F393.other W401 (Or.inl (Nat.ne_of_gt od_pg_ga))
  have F439 := F394.other W401 (Or.inl (Nat.ne_of_gt od_pg_ga))
  have F440 := F395.other W401 (Or.inl (Nat.ne_of_gt od_pg_ga))
  have F441 := F396.other W401 (Or.inl (Nat.ne_of_gt od_pg_ga))
  have F442 := F397.other W401 (Or.inl (Nat.ne_of_gt od_pg_ga))
  have F443 := F398.other W401 (Or.inl (Nat.ne_of_gt od_pg_ga))
  have F444 := F399.other W401 (Or.inl (Nat.ne_of_gt od_pg_ga))
  exact K.ret dAD_179 (by decide) (by decide) ⟨rfl, K402, ⟨F419, F420, F421, F422, F423, F424, F425, F426, F427, F428, F429, F430, F431, F432, F433, F434, F435, F436⟩, ⟨F437, F438, F439, F440, F441, F442, F443, F444⟩, ⟨_, I412⟩, ⟨_, I413⟩, I414, ⟨_, I415⟩, ⟨_, I416⟩⟩
set_option maxRecDepth 65536 in
set_option maxHeartbeats 40000000 in
theorem rmEL (l : Launch) (Z : State) (a0 : Array Value) (hw : ∀ d ∈ tables_1, d.before a0 Z = true) (ek aq cq pq oq kd su sa pg ga ag op ki na de pa sb : Addr) (fd : Int32 → Value) (st : Int32) (k n : Nat) (pk : Value) (pd ob : Int32) (oc : Nat) (ld : Int32) (lk : Value) (lp : Int32) (e : Nat → Int32) (fk fn fp fs : Int32 → Value) (g : Nat → Int32) (y : Int32) (h : Heap) (n0 : Nat) (PO : Od ek kd su sa pg ga ag op ki na de pa sb) (gpg : n0 ≤ pg) (PT : Stt Z h ek aq cq pq oq kd fd) (PE : Exa Z h pg "com/example/horatius/horatius/core/OutlinePage") (PX : Exa Z h ga "com/example/horatius/horatius/core/PageSummary") (PP : Pg Z h pg su ki na de pa sb ga op st (Int32.ofNat k) pk pd ob (Int32.ofNat oc)) (PG : Ga Z h ga ag (Int32.ofNat k) ld lk lp) (A1 : Ia Z h ki .byte (Int32.ofNat n) fk) (A2 : Ia Z h na .int (Int32.ofNat n) fn) (A3 : Ia Z h de .int (Int32.ofNat n) (dF e k)) (A4 : Ia Z h pa .int (Int32.ofNat n) fp) (A5 : Ia Z h sb .int (Int32.ofNat n) fs) (hk : k < n) (hn : n ≤ 4) (hx1 : ¬ e k = 1) (A6 : Ia Z h op .int (16 : Int32) (intF g)) (hst : ¬ st + Int32.ofNat k = 0) (hx : 1 ≤ (e k).toInt) (hle : (e k).toInt ≤ ob.toInt + oc) (hob : 1 ≤ ob.toInt) (hmx : ob.toInt + oc < 2147483648) (hoc : oc ≤ k) (hg : ∀ j, j < oc → ¬ g j < 0 ∧ g j < Int32.ofNat n) : Con l Z ⟨"com/example/horatius/horatius/core/OutlinePage", "addElement", "(IIZ)V"⟩ prog_19_method_3_code 6 none ({ frames := 3, cells := 0, slots := 0, locals := 47 } : Room) #[.ref pg, .int (e k), .int (0 : Int32), .int y] h n0 (fun vr h' => vr = none ∧ (Keep h h' [pg, ga, ki, na, de, pa, sb, op] ∧ ∃ (ob' : Int32) (oc' : Nat) (g' : Nat → Int32), oc' ≤ k + 1 ∧ 1 ≤ ob'.toInt ∧ ob'.toInt + oc' = (e k).toInt + 1 ∧ (∀ j, j < oc' → ¬ g' j < 0 ∧ g' j < Int32.ofNat n) ∧ Ia Z h' op .int (16 : Int32) (intF g') ∧ Pg Z h' pg su ki na de pa sb ga op st (Int32.ofNat (k + 1)) (.ref ek) (e k) ob' (Int32.ofNat oc') ∧ Ga Z h' ga ag (Int32.ofNat (k + 1)) (own_ls k ld (e k)) (.ref ek) (e k) ∧ (∃ f, Ia Z h' ki .byte (Int32.ofNat n) f) ∧ (∃ f, Ia Z h' na .int (Int32.ofNat n) f) ∧ Ia Z h' de .int (Int32.ofNat n) (dF e (k + 1)) ∧ (∃ f, Ia Z h' pa .int (Int32.ofNat n) f) ∧ (∃ f, Ia Z h' sb .int (Int32.ofNat n) f))) := by
  refine Con.of pnEL (fun m_ => efEL m_ pg (e k) (0 : Int32) y) (fun E K => ?_)
  have hoc : oc ≤ 4 := by omega
  have PO' := PO
  obtain ⟨⟨od_ek_pg, od_kd_pg, od_su_pg, od_sa_pg⟩, od_pg_ga, od_ga_ag, od_ag_op, od_op_ki, od_ki_na, od_na_de, od_de_pa, od_pa_sb⟩ := PO
  have od_pg_ag := Nat.lt_trans od_pg_ga od_ga_ag
  have od_pg_op := Nat.lt_trans od_pg_ag od_ag_op
  have od_pg_ki := Nat.lt_trans od_pg_op od_op_ki
  have od_pg_na := Nat.lt_trans od_pg_ki od_ki_na
  have od_pg_de := Nat.lt_trans od_pg_na od_na_de
  have od_pg_pa := Nat.lt_trans od_pg_de od_de_pa
  have od_pg_sb := Nat.lt_trans od_pg_pa od_pa_sb
  have od_ga_op := Nat.lt_trans od_ga_ag od_ag_op
  have od_ga_ki := Nat.lt_trans od_ga_op od_op_ki
  have od_ga_na := Nat.lt_trans od_ga_ki od_ki_na
  have od_ga_de := Nat.lt_trans od_ga_na od_na_de
  have od_ga_pa := Nat.lt_trans od_ga_de od_de_pa
  have od_ga_sb := Nat.lt_trans od_ga_pa od_pa_sb
  have od_ag_ki := Nat.lt_trans od_ag_op od_op_ki
  have od_ag_na := Nat.lt_trans od_ag_ki od_ki_na
  have od_ag_de := Nat.lt_trans od_ag_na od_na_de
  have od_ag_pa := Nat.lt_trans od_ag_de od_de_pa
  have od_ag_sb := Nat.lt_trans od_ag_pa od_pa_sb
  have od_op_na := Nat.lt_trans od_op_ki od_ki_na
  have od_op_de := Nat.lt_trans od_op_na od_na_de
  have od_op_pa := Nat.lt_trans od_op_de od_de_pa
  have od_op_sb := Nat.lt_trans od_op_pa od_pa_sb
  have od_ki_de := Nat.lt_trans od_ki_na od_na_de
  have od_ki_pa := Nat.lt_trans od_ki_de od_de_pa
  have od_ki_sb := Nat.lt_trans od_ki_pa od_pa_sb
  have od_na_pa := Nat.lt_trans od_na_de od_de_pa
  have od_na_sb := Nat.lt_trans od_na_pa od_pa_sb
  have od_de_sb := Nat.lt_trans od_de_pa od_pa_sb
  have od_ek_ga := Nat.lt_trans od_ek_pg od_pg_ga
  have od_ek_ag := Nat.lt_trans od_ek_pg od_pg_ag
  have od_ek_op := Nat.lt_trans od_ek_pg od_pg_op
  have od_ek_ki := Nat.lt_trans od_ek_pg od_pg_ki
  have od_ek_na := Nat.lt_trans od_ek_pg od_pg_na
  have od_ek_de := Nat.lt_trans od_ek_pg od_pg_de
  have od_ek_pa := Nat.lt_trans od_ek_pg od_pg_pa
  have od_ek_sb := Nat.lt_trans od_ek_pg od_pg_sb
  have od_kd_ga := Nat.lt_trans od_kd_pg od_pg_ga
  have od_kd_ag := Nat.lt_trans od_kd_pg od_pg_ag
  have od_kd_op := Nat.lt_trans od_kd_pg od_pg_op
  have od_kd_ki := Nat.lt_trans od_kd_pg od_pg_ki
  have od_kd_na := Nat.lt_trans od_kd_pg od_pg_na
  have od_kd_de := Nat.lt_trans od_kd_pg od_pg_de
  have od_kd_pa := Nat.lt_trans od_kd_pg od_pg_pa
  have od_kd_sb := Nat.lt_trans od_kd_pg od_pg_sb
  have od_su_ga := Nat.lt_trans od_su_pg od_pg_ga
  have od_su_ag := Nat.lt_trans od_su_pg od_pg_ag
  have od_su_op := Nat.lt_trans od_su_pg od_pg_op
  have od_su_ki := Nat.lt_trans od_su_pg od_pg_ki
  have od_su_na := Nat.lt_trans od_su_pg od_pg_na
  have od_su_de := Nat.lt_trans od_su_pg od_pg_de
  have od_su_pa := Nat.lt_trans od_su_pg od_pg_pa
  have od_su_sb := Nat.lt_trans od_su_pg od_pg_sb
  have od_sa_ga := Nat.lt_trans od_sa_pg od_pg_ga
  have od_sa_ag := Nat.lt_trans od_sa_pg od_pg_ag
  have od_sa_op := Nat.lt_trans od_sa_pg od_pg_op
  have od_sa_ki := Nat.lt_trans od_sa_pg od_pg_ki
  have od_sa_na := Nat.lt_trans od_sa_pg od_pg_na
  have od_sa_de := Nat.lt_trans od_sa_pg od_pg_de
  have od_sa_pa := Nat.lt_trans od_sa_pg od_pg_pa
  have od_sa_sb := Nat.lt_trans od_sa_pg od_pg_sb
  have ge_ga := Nat.le_trans gpg (Nat.le_of_lt od_pg_ga)
  have ge_ag := Nat.le_trans gpg (Nat.le_of_lt od_pg_ag)
  have ge_op := Nat.le_trans gpg (Nat.le_of_lt od_pg_op)
  have ge_ki := Nat.le_trans gpg (Nat.le_of_lt od_pg_ki)
  have ge_na := Nat.le_trans gpg (Nat.le_of_lt od_pg_na)
  have ge_de := Nat.le_trans gpg (Nat.le_of_lt od_pg_de)
  have ge_pa := Nat.le_trans gpg (Nat.le_of_lt od_pg_pa)
  have ge_sb := Nat.le_trans gpg (Nat.le_of_lt od_pg_sb)
  obtain ⟨S1, S2, S3, S4, S5, S6, I7, E8, F9, hfd, hna, hnc, hnp⟩ := PT
  obtain ⟨F10, F11, F12, F13, F14, F15, F16, F17, F18, F19, F20, F21, F22, F23, F24, F25, F26, F27⟩ := PP
  obtain ⟨F28, F29, F30, F31, F32, F33, F34, F35⟩ := PG
  have PO := PO'
  have K36 : Keep h h [pg, ga, ki, na, de, pa, sb, op] := Keep.refl _ _
  refine K.aloadN dEL_0 rfl rfl ?_
  refine K.getS dEL_1 (wd88 hw) S1 ?_
  refine K.iloadN dEL_4 rfl ?_
  refine K.callP (a := pg) [.ref ek, .int (e k)] [] 0 0 0 dEL_5 (wd112 hw) (wd114 hw) (own_selp (wd114 hw) (wd113 hw) (wd52 hw) (by decide)) (wd113 hw) (wd53 hw) (wd115 hw) (by decide) (rmPH l Z a0 hw pg su ki na de pa sb ga op ek st (Int32.ofNat k) pk pd ob oc n g fs (e k) h n0 ⟨F10, F11, F12, F13, F14, F15, F16, F17, F18, F19, F20, F21, F22, F23, F24, F25, F26, F27⟩ PE A5 A6 gpg ge_sb od_pg_sb od_pg_op od_op_sb hst hx hle hob hmx hoc hg) PE rfl (lenOf pd_15 rfl) rfl (Nat.le_of_eq rfl) (by decide) (by decide) rfl rfl (by decide) (by decide) (goI fun z37 h38 q39 => ?_)
  obtain ⟨K40, ob', oc', fs', hoc', hob', heq', P41, A42⟩ := q39
  have K43 := K36.trans K40 (allS (Or.inl (List.mem_of_getElem? (i := 0) rfl)) (allS (Or.inl (List.mem_of_getElem? (i := 6) rfl)) all0))
  have S44 := staK S1 K40 (allS (plE PE) (allS (plA A5) all0))
  have S45 := staK S2 K40 (allS (plE PE) (allS (plA A5) all0))
  have S46 := staK S3 K40 (allS (plE PE) (allS (plA A5) all0))
  have S47 := staK S4 K40 (allS (plE PE) (allS (plA A5) all0))
  have S48 := staK S5 K40 (allS (plE PE) (allS (plA A5) all0))
  have S49 := staK S6 K40 (allS (plE PE) (allS (plA A5) all0))
  have I50 := I7.keep K40 (ninS (Nat.ne_of_lt od_kd_pg) (ninS (Nat.ne_of_lt od_kd_sb) nin0))
  have E51 := E8.keep K40
  have F52 := F9.keep K40 (ninS (Nat.ne_of_lt od_ek_pg) (ninS (Nat.ne_of_lt od_ek_sb) nin0))
  have I53 := A1.keep K40 (ninS (Nat.ne_of_gt od_pg_ki) (ninS (Nat.ne_of_lt od_ki_sb) nin0))
  have I54 := A2.keep K40 (ninS (Nat.ne_of_gt od_pg_na) (ninS (Nat.ne_of_lt od_na_sb) nin0))
  have I55 := A3.keep K40 (ninS (Nat.ne_of_gt od_pg_de) (ninS (Nat.ne_of_lt od_de_sb) nin0))
  have I56 := A4.keep K40 (ninS (Nat.ne_of_gt od_pg_pa) (ninS (Nat.ne_of_lt od_pa_sb) nin0))
  have E57 := PE.keep K40
  have E58 := PX.keep K40
  have F59 := F28.keep K40 (ninS (Nat.ne_of_gt od_pg_ga) (ninS (Nat.ne_of_lt od_ga_sb) nin0))
  have F60 := F29.keep K40 (ninS (Nat.ne_of_gt od_pg_ga) (ninS (Nat.ne_of_lt od_ga_sb) nin0))
  have F61 := F30.keep K40 (ninS (Nat.ne_of_gt od_pg_ga) (ninS (Nat.ne_of_lt od_ga_sb) nin0))
  have F62 := F31.keep K40 (ninS (Nat.ne_of_gt od_pg_ga) (ninS (Nat.ne_of_lt od_ga_sb) nin0))
  have F63 := F32.keep K40 (ninS (Nat.ne_of_gt od_pg_ga) (ninS (Nat.ne_of_lt od_ga_sb) nin0))
  have F64 := F33.keep K40 (ninS (Nat.ne_of_gt od_pg_ga) (ninS (Nat.ne_of_lt od_ga_sb) nin0))
  have F65 := F34.keep K40 (ninS (Nat.ne_of_gt od_pg_ga) (ninS (Nat.ne_of_lt od_ga_sb) nin0))
  have F66 := F35.keep K40 (ninS (Nat.ne_of_gt od_pg_ga) (ninS (Nat.ne_of_lt od_ga_sb) nin0))
  have I67 := A6.keep K40 (ninS (Nat.ne_of_gt od_pg_op) (ninS (Nat.ne_of_lt od_op_sb) nin0))
  obtain ⟨F68, F69, F70, F71, F72, F73, F74, F75, F76, F77, F78, F79, F80, F81, F82, F83, F84, F85⟩ := P41
  refine K.istore #[.val (.ref pg), .val (.int (e k)), .val (.int (0 : Int32)), .val (.int y), .val (.int z37), .unset] dEL_8 rfl ?_
  refine K.iloadN dEL_10 rfl ?_
  refine K.iconst (1 : Int32) dEL_11 rfl ?_
  refine K.ic_ne dEL_12 (fun u => absurd u hx1) (fun _ => ?_)
  refine K.aloadN dEL_47 rfl rfl ?_
  refine K.getF dEL_48 (wd120 hw) F77 ?_
  refine K.istore #[.val (.ref pg), .val (.int (e k)), .val (.int (0 : Int32)), .val (.int y), .val (.int z37), .val (.int (Int32.ofNat k))] dEL_51 rfl ?_
  refine K.aloadN dEL_53 rfl rfl ?_
  refine K.getS dEL_54 (wd88 hw) S44 ?_
  refine K.callU (a := ek) (owner := "java/lang/Enum") [] [.ref pg] 1 0 0 dEL_57 (wd124 hw) (wd125 hw) (wd126 hw) (by decide) (wd128 hw) (wd127 hw) (wd129 hw) (wd130 hw) (rmON l Z a0 hw ek (1 : Int32) h38 n0 F52) E51 rfl (lenOf pd_4 rfl) rfl (Nat.le_of_eq rfl) (by decide) (by decide) rfl rfl (by decide) (by decide) (goP ?_)
  refine K.iloadN dEL_60 rfl ?_
  refine cut (P := ∀ z : Int32, (z = 0 ∨ z = 32) → Wk E h38 0 0 70 #[.val (.ref pg), .val (.int (e k)), .val (.int (0 : Int32)), .val (.int y), .val (.int z37), .val (.int (Int32.ofNat k))] [.int z, .int (1 : Int32), .ref pg]) (fun J86 => ?_) ?_
  · refine K.if_eq dEL_61 (fun hc87 => ?_) (fun hc87 => ?_)
    · refine K.iconst (0 : Int32) dEL_69 rfl ?_
      exact J86 _ (Or.inl rfl)
    · refine K.bipush (32 : Int32) dEL_64 rfl ?_
      refine K.goto dEL_66 ?_
      exact J86 _ (Or.inr rfl)
  intro z hz
  obtain ⟨hfa, hfb⟩ := own_flag hz
  refine K.ior dEL_70 ?_
  refine K.aloadN dEL_71 rfl rfl ?_
  refine K.iloadN dEL_72 rfl ?_
  refine K.callP (a := pg) [.int (0 : Int32)] [.int ((1 : Int32) ||| z), .ref pg] 2 0 0 dEL_73 (wd133 hw) (wd135 hw) (own_selp (wd135 hw) (wd134 hw) (wd52 hw) (by decide)) (wd134 hw) (wd53 hw) (wd136 hw) (by decide) (rmCN l Z a0 hw pg h38 n0 F70) E57 rfl (lenOf pd_16 rfl) rfl (Nat.le_of_eq rfl) (by decide) (by decide) rfl rfl (by decide) (by decide) (goP ?_)
  refine K.iloadN dEL_76 rfl ?_
  refine K.iload dEL_77 rfl ?_
  refine K.callP (a := pg) [.int ((1 : Int32) ||| z), .int (0 : Int32), .int (e k), .int z37] [] 0 0 0 dEL_79 (wd137 hw) (wd139 hw) (own_selp (wd139 hw) (wd138 hw) (wd52 hw) (by decide)) (wd138 hw) (wd53 hw) (wd140 hw) (by decide) (rmAD l Z a0 hw ek aq cq pq oq kd su sa pg ga ag op ki na de pa sb fd st k n pk pd ob' oc' ld lk lp e fk fn fp fs' ((1 : Int32) ||| z) z37 h38 n0 PO gpg ⟨S44, S45, S46, S47, S48, S49, I50, E51, F52, hfd, hna, hnc, hnp⟩ E57 E58 ⟨F68, F69, F70, F71, F72, F73, F74, F75, F76, F77, F78, F79, F80, F81, F82, F83, F84, F85⟩ ⟨F59, F60, F61, F62, F63, F64, F65, F66⟩ I53 I54 I55 I56 A42 hk hn hx1 hfa hfb) E57 rfl (lenOf pd_17 rfl) rfl (Nat.le_of_eq rfl) (by decide) (by decide) rfl rfl (by decide) (by decide) (goU fun h88 q89 => ?_)
  obtain ⟨K90, N91, N92, ⟨fn98, N93⟩, ⟨fn99, N94⟩, N95, ⟨fn100, N96⟩, ⟨fn101, N97⟩⟩ := q89
  have K102 := K43.trans K90 (allS (Or.inl (List.mem_of_getElem? (i := 0) rfl)) (allS (Or.inl (List.mem_of_getElem? (i := 1) rfl)) (allS (Or.inl (List.mem_of_getElem? (i := 2) rfl)) (allS (Or.inl (List.mem_of_getElem? (i := 3) rfl)) (allS (Or.inl (List.mem_of_getElem? (i := 4) rfl)) (allS (Or.inl (List.mem_of_getElem? (i := 5) rfl)) (allS (Or.inl (List.mem_of_getElem? (i := 6) rfl)) all0)))))))
  have S103 := staK S44 K90 (allS (plE E57) (allS (plE E58) (allS (plA I53) (allS (plA I54) (allS (plA I55) (allS (plA I56) (allS (plA A42) all0)))))))
  have S104 := staK S45 K90 (allS (plE E57) (allS (plE E58) (allS (plA I53) (allS (plA I54) (allS (plA I55) (allS (plA I56) (allS (plA A42) all0)))))))
  have S105 := staK S46 K90 (allS (plE E57) (allS (plE E58) (allS (plA I53) (allS (plA I54) (allS (plA I55) (allS (plA I56) (allS (plA A42) all0)))))))
  have S106 := staK S47 K90 (allS (plE E57) (allS (plE E58) (allS (plA I53) (allS (plA I54) (allS (plA I55) (allS (plA I56) (allS (plA A42) all0)))))))
  have S107 := staK S48 K90 (allS (plE E57) (allS (plE E58) (allS (plA I53) (allS (plA I54) (allS (plA I55) (allS (plA I56) (allS (plA A42) all0)))))))
  have S108 := staK S49 K90 (allS (plE E57) (allS (plE E58) (allS (plA I53) (allS (plA I54) (allS (plA I55) (allS (plA I56) (allS (plA A42) all0)))))))
  have I109 := I50.keep K90 (ninS (Nat.ne_of_lt od_kd_pg) (ninS (Nat.ne_of_lt od_kd_ga) (ninS (Nat.ne_of_lt od_kd_ki) (ninS (Nat.ne_of_lt od_kd_na) (ninS (Nat.ne_of_lt od_kd_de) (ninS (Nat.ne_of_lt od_kd_pa) (ninS (Nat.ne_of_lt od_kd_sb) nin0)))))))
  have E110 := E51.keep K90
  have F111 := F52.keep K90 (ninS (Nat.ne_of_lt od_ek_pg) (ninS (Nat.ne_of_lt od_ek_ga) (ninS (Nat.ne_of_lt od_ek_ki) (ninS (Nat.ne_of_lt od_ek_na) (ninS (Nat.ne_of_lt od_ek_de) (ninS (Nat.ne_of_lt od_ek_pa) (ninS (Nat.ne_of_lt od_ek_sb) nin0)))))))
  have E112 := E57.keep K90
  have E113 := E58.keep K90
  have I114 := I67.keep K90 (ninS (Nat.ne_of_gt od_pg_op) (ninS (Nat.ne_of_gt od_ga_op) (ninS (Nat.ne_of_lt od_op_ki) (ninS (Nat.ne_of_lt od_op_na) (ninS (Nat.ne_of_lt od_op_de) (ninS (Nat.ne_of_lt od_op_pa) (ninS (Nat.ne_of_lt od_op_sb) nin0)))))))
  obtain ⟨F115, F116, F117, F118, F119, F120, F121, F122, F123, F124, F125, F126, F127, F128, F129, F130, F131, F132⟩ := N91
  obtain ⟨F133, F134, F135, F136, F137, F138, F139, F140⟩ := N92
  refine K.aloadN dEL_82 rfl rfl ?_
  refine K.getF dEL_83 (wd122 hw) F129 ?_
  refine K.aloadN dEL_86 rfl rfl ?_
  refine K.getF dEL_87 (wd64 hw) F128 ?_
  refine K.arraylength dEL_90 I114 ?_
  refine K.ic_ne dEL_91 (fun u => absurd u (fun q => absurd (own_inj (j := 16) (by omega) (by decide) q) (by omega))) (fun _ => ?_)
  refine K.aloadN dEL_111 rfl rfl ?_
  refine K.getF dEL_112 (wd64 hw) F128 ?_
  refine K.aloadN dEL_115 rfl rfl ?_
  refine K.dup dEL_116 rfl ?_
  refine K.getF dEL_117 (wd122 hw) F129 ?_
  refine K.dup_x1 dEL_120 rfl rfl ?_
  refine K.iconst (1 : Int32) dEL_121 rfl ?_
  refine K.iadd dEL_122 ?_
  rw [own_inc oc']
  refine K.putF dEL_123 (wd122 hw) F129 E112 (Or.inl (wd123 hw)) (wd52 hw) (ty := .int) (by decide) rfl rfl gpg (fun h141 W142 => ?_)
  have K143 := K102.wr W142 (Or.inl (List.mem_of_getElem? (i := 0) rfl))
  have S144 := S103.wr W142
  have S145 := S104.wr W142
  have S146 := S105.wr W142
  have S147 := S106.wr W142
  have S148 := S107.wr W142
  have S149 := S108.wr W142
  have I150 := I109.other W142 (Nat.ne_of_lt od_kd_pg)
  have E151 := E110.wr W142
  have F152 := F111.other W142 (Or.inl (Nat.ne_of_lt od_ek_pg))
  have E153 := E112.wr W142
  have E154 := E113.wr W142
  have I155 := I114.other W142 (Nat.ne_of_gt od_pg_op)
  have F156 := F115.other W142 (Or.inr (RoadKit.slot_ne (Or.inr (wd69 hw)) (Or.inl (wd123 hw)) (by decide) (t := .int) (t' := .int) (by decide) (by decide)))
  have F157 := F116.other W142 (Or.inr (RoadKit.slot_ne (Or.inr (wd71 hw)) (Or.inl (wd123 hw)) (by decide) (t := (.object "com/example/horatius/horatius/core/PageSummary")) (t' := .int) (by decide) (by decide)))
  have F158 := F117.other W142 (Or.inr (RoadKit.slot_ne (Or.inr (wd73 hw)) (Or.inl (wd123 hw)) (by decide) (t := .int) (t' := .int) (by decide) (by decide)))
  have F159 := F118.other W142 (Or.inr (RoadKit.slot_ne (Or.inr (wd98 hw)) (Or.inl (wd123 hw)) (by decide) (t := (.array .byte)) (t' := .int) (by decide) (by decide)))
  have F160 := F119.other W142 (Or.inr (RoadKit.slot_ne (Or.inr (wd100 hw)) (Or.inl (wd123 hw)) (by decide) (t := (.array .int)) (t' := .int) (by decide) (by decide)))
  have F161 := F120.other W142 (Or.inr (RoadKit.slot_ne (Or.inr (wd102 hw)) (Or.inl (wd123 hw)) (by decide) (t := (.array .int)) (t' := .int) (by decide) (by decide)))
  have F162 := F121.other W142 (Or.inr (RoadKit.slot_ne (Or.inr (wd104 hw)) (Or.inl (wd123 hw)) (by decide) (t := (.array .int)) (t' := .int) (by decide) (by decide)))
  have F163 := F122.other W142 (Or.inr (RoadKit.slot_ne (Or.inr (wd106 hw)) (Or.inl (wd123 hw)) (by decide) (t := (.array .int)) (t' := .int) (by decide) (by decide)))
  have F164 := F123.other W142 (Or.inr (RoadKit.slot_ne (Or.inr (wd63 hw)) (Or.inl (wd123 hw)) (by decide) (t := (.object "com/example/horatius/horatius/core/PageSummary")) (t' := .int) (by decide) (by decide)))
  have F165 := F124.other W142 (Or.inr (RoadKit.slot_ne (Or.inl (wd121 hw)) (Or.inl (wd123 hw)) (by decide) (t := .int) (t' := .int) (by decide) (by decide)))
  have F166 := F125.other W142 (Or.inr (RoadKit.slot_ne (Or.inl (wd80 hw)) (Or.inl (wd123 hw)) (by decide) (t := (.object "com/example/horatius/horatius/core/NodeKind")) (t' := .int) (by decide) (by decide)))
  have F167 := F126.other W142 (Or.inr (RoadKit.slot_ne (Or.inl (wd87 hw)) (Or.inl (wd123 hw)) (by decide) (t := .int) (t' := .int) (by decide) (by decide)))
  have F168 := F127.other W142 (Or.inr (RoadKit.slot_ne (Or.inl (wd90 hw)) (Or.inl (wd123 hw)) (by decide) (t := .int) (t' := .int) (by decide) (by decide)))
  have F169 := F128.other W142 (Or.inr (RoadKit.slot_ne (Or.inl (wd65 hw)) (Or.inl (wd123 hw)) (by decide) (t := (.array .int)) (t' := .int) (by decide) (by decide)))
  have F170 := F129.same W142
  have F171 := F130.other W142 (Or.inr (RoadKit.slot_ne (Or.inl (wd208 hw)) (Or.inl (wd123 hw)) (by decide) (t := (.array .int)) (t' := .int) (by decide) (by decide)))
  have F172 := F131.other W142 (Or.inr (RoadKit.slot_ne (Or.inl (wd210 hw)) (Or.inl (wd123 hw)) (by decide) (t := (.array .int)) (t' := .int) (by decide) (by decide)))
  have F173 := F132.other W142 (Or.inr (RoadKit.slot_ne (Or.inl (wd142 hw)) (Or.inl (wd123 hw)) (by decide) (t := .boolean) (t' := .int) (by decide) (by decide)))
  have F174 := F133.other W142 (Or.inl (Nat.ne_of_gt od_pg_ga))
  have F175 := F134.other W142 (Or.inl (Nat.ne_of_gt od_pg_ga))
  have F176 := F135.other W142 (Or.inl (Nat.ne_of_gt od_pg_ga))
  have F177 := F136.other W142 (Or.inl (Nat.ne_of_gt od_pg_ga))
  have F178 := F137.other W142 (Or.inl (Nat.ne_of_gt od_pg_ga))
  have F179 := F138.other W142 (Or.inl (Nat.ne_of_gt od_pg_ga))
  have F180 := F139.other W142 (Or.inl (Nat.ne_of_gt od_pg_ga))
  have F181 := F140.other W142 (Or.inl (Nat.ne_of_gt od_pg_ga))
  have I182 := N93.other W142 (Nat.ne_of_gt od_pg_ki)
  have I183 := N94.other W142 (Nat.ne_of_gt od_pg_na)
  have I184 := N96.other W142 (Nat.ne_of_gt od_pg_pa)
  have I185 := N97.other W142 (Nat.ne_of_gt od_pg_sb)
  have I186 := N95.other W142 (Nat.ne_of_gt od_pg_de)
  refine K.iload dEL_126 rfl ?_
  refine K.iastore dEL_128 I155 (own_nn (by omega)) ((own_lt (j := 16) (by omega) (by decide)).mpr (by omega)) ge_op (fun h187 W188 A189 => ?_)
  have K190 := K143.wr W188 (Or.inl (List.mem_of_getElem? (i := 7) rfl))
  have S191 := S144.wr W188
  have S192 := S145.wr W188
  have S193 := S146.wr W188
  have S194 := S147.wr W188
  have S195 := S148.wr W188
  have S196 := S149.wr W188
  have I197 := I150.other W188 (Nat.ne_of_lt od_kd_op)
  have E198 := E151.wr W188
  have F199 := F152.other W188 (Or.inl (Nat.ne_of_lt od_ek_op))
  have E200 := E153.wr W188
  have E201 := E154.wr W188
  have F202 := F156.other W188 (Or.inl (Nat.ne_of_lt od_pg_op))
  have F203 := F157.other W188 (Or.inl (Nat.ne_of_lt od_pg_op))
  have F204 := F158.other W188 (Or.inl (Nat.ne_of_lt od_pg_op))
  have F205 := F159.other W188 (Or.inl (Nat.ne_of_lt od_pg_op))
  have F206 := F160.other W188 (Or.inl (Nat.ne_of_lt od_pg_op))
  have F207 := F161.other W188 (Or.inl (Nat.ne_of_lt od_pg_op))
  have F208 := F162.other W188 (Or.inl (Nat.ne_of_lt od_pg_op))
  have F209 := F163.other W188 (Or.inl (Nat.ne_of_lt od_pg_op))
  have F210 := F164.other W188 (Or.inl (Nat.ne_of_lt od_pg_op))
  have F211 := F165.other W188 (Or.inl (Nat.ne_of_lt od_pg_op))
  have F212 := F166.other W188 (Or.inl (Nat.ne_of_lt od_pg_op))
  have F213 := F167.other W188 (Or.inl (Nat.ne_of_lt od_pg_op))
  have F214 := F168.other W188 (Or.inl (Nat.ne_of_lt od_pg_op))
  have F215 := F169.other W188 (Or.inl (Nat.ne_of_lt od_pg_op))
  have F216 := F170.other W188 (Or.inl (Nat.ne_of_lt od_pg_op))
  have F217 := F171.other W188 (Or.inl (Nat.ne_of_lt od_pg_op))
  have F218 := F172.other W188 (Or.inl (Nat.ne_of_lt od_pg_op))
  have F219 := F173.other W188 (Or.inl (Nat.ne_of_lt od_pg_op))
  have F220 := F174.other W188 (Or.inl (Nat.ne_of_lt od_ga_op))
  have F221 := F175.other W188 (Or.inl (Nat.ne_of_lt od_ga_op))
  have F222 := F176.other W188 (Or.inl (Nat.ne_of_lt od_ga_op))
  have F223 := F177.other W188 (Or.inl (Nat.ne_of_lt od_ga_op))
  have F224 := F178.other W188 (Or.inl (Nat.ne_of_lt od_ga_op))
  have F225 := F179.other W188 (Or.inl (Nat.ne_of_lt od_ga_op))
  have F226 := F180.other W188 (Or.inl (Nat.ne_of_lt od_ga_op))
  have F227 := F181.other W188 (Or.inl (Nat.ne_of_lt od_ga_op))
  have I228 := I182.other W188 (Nat.ne_of_gt od_op_ki)
  have I229 := I183.other W188 (Nat.ne_of_gt od_op_na)
  have I230 := I184.other W188 (Nat.ne_of_gt od_op_pa)
  have I231 := I185.other W188 (Nat.ne_of_gt od_op_sb)
  have I232 := I186.other W188 (Nat.ne_of_gt od_op_de)
  exact K.ret dEL_129 (by decide) (by decide) ⟨rfl, K190, ob', oc' + 1, upd g oc' (Int32.ofNat k), by omega, hob', by omega, own_opn hg hoc' hk hn, A189.congr (own_upd g (by omega) _ _), ⟨F202, F203, F204, F205, F206, F207, F208, F209, F210, F211, F212, F213, F214, F215, F216, F217, F218, F219⟩, ⟨F220, F221, F222, F223, F224, F225, F226, F227⟩, ⟨_, I228⟩, ⟨_, I229⟩, I232, ⟨_, I230⟩, ⟨_, I231⟩⟩
set_option maxRecDepth 65536 in
set_option maxHeartbeats 40000000 in
theorem rmSH (l : Launch) (Z : State) (a0 : Array Value) (hw : ∀ d ∈ tables_1, d.before a0 Z = true) (pg de : Addr) (n : Nat) (e : Nat → Int32) (v : Nat → Nat) (pl : Nat → Int32) (fr tt sp : Int32) (h : Heap) (n0 : Nat) (PF : Fld Z h pg "com/example/horatius/horatius/core/OutlinePage" "depths" "[I" (.ref de)) (PA : Ia Z h de .int (Int32.ofNat n) (dF e n)) (hn : n ≤ 4) (h0 : pl 0 = fr) (hto : pl n = tt) (hne : ∀ i, i < n → ¬ pl i = tt) (hst : ∀ i, i < n → pl i + sp = pl (i + 1)) (hv : ∀ i, i < n → pl i = Int32.ofNat (v i) ∧ v i < n) (hmx : ∀ j, j < n → e j < (2147483647 : Int32)) : Con l Z ⟨"com/example/horatius/horatius/core/OutlinePage", "shallowest", "(III)[I"⟩ prog_19_method_9_code 8 (some (.array .int)) ({ frames := 2, cells := 2, slots := 16, locals := 32 } : Room) #[.ref pg, .int fr, .int tt, .int sp] h n0 (fun vr h' => ∃ t, vr = some (.ref t) ∧ (Keep h h' [] ∧ h.size ≤ t ∧ n0 ≤ t ∧ ∃ (c : Nat) (w : Nat → Nat), c ≤ n ∧ PMin (fun i => e (v i)) n c w ∧ Ia Z h' t .int (Int32.ofNat c) (intF (fun j => pl (w j))))) := by
  refine Con.of pnSH (fun m_ => efSH m_ pg fr tt sp) (fun E K => ?_)
  subst h0
  have K1 : Keep h h [] := Keep.refl _ _
  refine K.bipush (8 : Int32) dSH_0 rfl ?_
  refine K.newP (ty := .int) (dv := .int 0) 8 1 8 dSH_2 (wd13 hw) rfl rfl (by decide) (by decide) (by decide) rfl rfl (by decide) (by decide) (fun h3 a2 ha4 g5 X6 A7 => ?_)
  have ks_a2 := ha_ge K1.1 ha4
  have lt_de_a2 : de < a2 := by rw [ha4]; exact PA.lt
  have lt_pg_a2 : pg < a2 := by rw [ha4]; exact PF.lt
  have K8 := K1.ext X6
  have F9 := PF.ext X6
  have I10 := PA.ext X6
  refine K.astore #[.val (.ref pg), .val (.int (pl 0)), .val (.int tt), .val (.int sp), .val (.ref a2), .unset, .unset, .unset] dSH_4 rfl rfl ?_
  refine K.iconst (0 : Int32) dSH_6 rfl ?_
  refine K.istore #[.val (.ref pg), .val (.int (pl 0)), .val (.int tt), .val (.int sp), .val (.ref a2), .val (.int (0 : Int32)), .unset, .unset] dSH_7 rfl ?_
  refine K.ldcI dSH_9 (wd198 hw) ?_
  refine K.istore #[.val (.ref pg), .val (.int (pl 0)), .val (.int tt), .val (.int sp), .val (.ref a2), .val (.int (0 : Int32)), .val (.int (2147483647 : Int32)), .unset] dSH_11 rfl ?_
  refine K.iloadN dSH_13 rfl ?_
  refine K.istore #[.val (.ref pg), .val (.int (pl 0)), .val (.int tt), .val (.int sp), .val (.ref a2), .val (.int (0 : Int32)), .val (.int (2147483647 : Int32)), .val (.int (pl 0))] dSH_14 rfl ?_
  have LOOP : ∀ (d i c : Nat) (h1 : Heap) (lx : Int32) (g : Nat → Int32) (w : Nat → Nat), n ≤ i + d → i ≤ n → c ≤ i → PMin (fun i => e (v i)) i c w → Lst (fun i => e (v i)) i lx → (∀ j, j < c → g j = pl (w j)) → Fld Z h1 pg "com/example/horatius/horatius/core/OutlinePage" "depths" "[I" (.ref de) → Ia Z h1 de .int (Int32.ofNat n) (dF e n) → Ia Z h1 a2 .int (Int32.ofNat 8) (intF g) → Keep h h1 [] → Wk E h1 1 8 16 #[.val (.ref pg), .val (.int (pl 0)), .val (.int tt), .val (.int sp), .val (.ref a2), .val (.int (Int32.ofNat c)), .val (.int lx), .val (.int (pl i))] [] := by
    intro d
    induction d with
    | zero =>
      intro i c h1 lx g w hd hin hci hP hL hG PF1 PA1 PT1 KK
      have hi_ : i = n := by omega
      refine K.iload dSH_16 rfl ?_
      refine K.iloadN dSH_18 rfl ?_
      refine K.ic_eq dSH_19 (fun _ => ?_) (fun u => absurd (by rw [hi_]; exact hto) u)
      refine K.aload dSH_81 rfl rfl ?_
      refine K.iload dSH_83 rfl ?_
      refine K.callS [.ref a2, .int (Int32.ofNat c)] [] 0 2 16 dSH_85 (wd199 hw) (wd200 hw) (wd185 hw) (wd201 hw) (by decide) (rmCO l Z a0 hw a2 8 c g h1 n0 PT1 (by omega) (by omega)) rfl (lenOf pd_18 rfl) rfl (Nat.le_of_eq rfl) (by decide) (by decide) rfl rfl (by decide) (by decide) (goR fun t11 h12 q13 => ?_)
      obtain ⟨K14, g15, e16, A17⟩ := q13
      have lt_a2_t11 : a2 < t11 := Nat.lt_of_lt_of_le PT1.lt g15
      have lt_de_t11 : de < t11 := Nat.lt_of_lt_of_le PA1.lt g15
      have lt_pg_t11 : pg < t11 := Nat.lt_of_lt_of_le PF1.lt g15
      have ks18 := Nat.le_trans KK.1 g15
      have K19 := KK.trans K14 all0
      have F20 := PF1.keep K14 nin0
      have I21 := PA1.keep K14 nin0
      have I22 := PT1.keep K14 nin0
      exact K.areturn dSH_88 rfl rfl rfl (by decide) (by decide) ⟨_, rfl, K19, ks18, e16, c, w, by omega, hi_ ▸ hP, A17.congr (fun j j1 j2 => by rw [intF, intF, hG _ (own_below (by omega) j1 j2)])⟩
    | succ d ih =>
      intro i c h1 lx g w hd hin hci hP hL hG PF1 PA1 PT1 KK
      by_cases hi : i < n
      · obtain ⟨hv1, hv2⟩ := hv i hi
        refine K.iload dSH_16 rfl ?_
        refine K.iloadN dSH_18 rfl ?_
        refine K.ic_eq dSH_19 (fun u => absurd u (hne i hi)) (fun _ => ?_)
        refine K.aloadN dSH_22 rfl rfl ?_
        refine K.getF dSH_23 (wd101 hw) PF1 ?_
        refine K.iload dSH_26 rfl ?_
        refine K.iaload (v := .int (e (v i))) dSH_28 PA1 (by rw [hv1]; exact own_nn (by omega)) (by rw [hv1]; exact (own_lt (by omega) (by omega)).mpr hv2) (by rw [hv1]; exact own_rd e hv2 (by omega)) ?_
        refine K.iload dSH_29 rfl ?_
        refine K.ic_ge dSH_31 (fun hc23 => ?_) (fun hc23 => ?_)
        · refine K.aloadN dSH_34 rfl rfl ?_
          refine K.getF dSH_35 (wd101 hw) PF1 ?_
          refine K.iload dSH_38 rfl ?_
          refine K.iaload (v := .int (e (v i))) dSH_40 PA1 (by rw [hv1]; exact own_nn (by omega)) (by rw [hv1]; exact (own_lt (by omega) (by omega)).mpr hv2) (by rw [hv1]; exact own_rd e hv2 (by omega)) ?_
          refine K.istore #[.val (.ref pg), .val (.int (pl 0)), .val (.int tt), .val (.int sp), .val (.ref a2), .val (.int (Int32.ofNat c)), .val (.int (e (v i))), .val (.int (pl i))] dSH_41 rfl ?_
          refine K.iload dSH_43 rfl ?_
          refine K.aload dSH_45 rfl rfl ?_
          refine K.arraylength dSH_47 PT1 ?_
          refine K.ic_ne dSH_48 (fun u => absurd u (fun q => absurd (own_inj (by omega) (by omega) q) (by omega))) (fun _ => ?_)
          refine K.aload dSH_62 rfl rfl ?_
          refine K.iload dSH_64 rfl ?_
          refine K.iinc (Int32.ofNat (c + 1)) #[.val (.ref pg), .val (.int (pl 0)), .val (.int tt), .val (.int sp), .val (.ref a2), .val (.int (Int32.ofNat (c + 1))), .val (.int (e (v i))), .val (.int (pl i))] dSH_66 rfl (inc_ofNat c).symm rfl ?_
          refine K.iload dSH_69 rfl ?_
          refine K.iastore dSH_71 PT1 (own_nn (by omega)) ((own_lt (by omega) (by omega)).mpr (by omega)) g5 (fun h24 W25 A26 => ?_)
          have K27 := KK.wr W25 (Or.inr ks_a2)
          have F28 := PF1.other W25 (Or.inl (Nat.ne_of_lt lt_pg_a2))
          have I29 := PA1.other W25 (Nat.ne_of_lt lt_de_a2)
          refine K.iload dSH_72 rfl ?_
          refine K.iloadN dSH_74 rfl ?_
          refine K.iadd dSH_75 ?_
          rw [hst i hi]
          refine K.istore #[.val (.ref pg), .val (.int (pl 0)), .val (.int tt), .val (.int sp), .val (.ref a2), .val (.int (Int32.ofNat (c + 1))), .val (.int (e (v i))), .val (.int (pl (i + 1)))] dSH_76 rfl ?_
          refine K.goto dSH_78 ?_
          exact ih (i + 1) (c + 1) _ (e (v i)) (upd g c (pl i)) (updN w c i) (by omega) (by omega) (by omega) (hP.yes hL hc23) (hL.yes hc23) (own_gw hG) F28 I29 (A26.congr (own_upd g (by omega) _ _)) K27
        · refine K.iload dSH_72 rfl ?_
          refine K.iloadN dSH_74 rfl ?_
          refine K.iadd dSH_75 ?_
          rw [hst i hi]
          refine K.istore #[.val (.ref pg), .val (.int (pl 0)), .val (.int tt), .val (.int sp), .val (.ref a2), .val (.int (Int32.ofNat c)), .val (.int lx), .val (.int (pl (i + 1)))] dSH_76 rfl ?_
          refine K.goto dSH_78 ?_
          exact ih (i + 1) c _ lx g w (by omega) (by omega) (by omega) (hP.no hL hc23 (hmx _ hv2)) (hL.no hc23 (hmx _ hv2)) hG PF1 PA1 PT1 KK
      · have hi_ : i = n := by omega
        refine K.iload dSH_16 rfl ?_
        refine K.iloadN dSH_18 rfl ?_
        refine K.ic_eq dSH_19 (fun _ => ?_) (fun u => absurd (by rw [hi_]; exact hto) u)
        refine K.aload dSH_81 rfl rfl ?_
        refine K.iload dSH_83 rfl ?_
        refine K.callS [.ref a2, .int (Int32.ofNat c)] [] 0 2 16 dSH_85 (wd199 hw) (wd200 hw) (wd185 hw) (wd201 hw) (by decide) (rmCO l Z a0 hw a2 8 c g h1 n0 PT1 (by omega) (by omega)) rfl (lenOf pd_18 rfl) rfl (Nat.le_of_eq rfl) (by decide) (by decide) rfl rfl (by decide) (by decide) (goR fun t30 h31 q32 => ?_)
        obtain ⟨K33, g34, e35, A36⟩ := q32
        have lt_a2_t30 : a2 < t30 := Nat.lt_of_lt_of_le PT1.lt g34
        have lt_de_t30 : de < t30 := Nat.lt_of_lt_of_le PA1.lt g34
        have lt_pg_t30 : pg < t30 := Nat.lt_of_lt_of_le PF1.lt g34
        have ks37 := Nat.le_trans KK.1 g34
        have K38 := KK.trans K33 all0
        have F39 := PF1.keep K33 nin0
        have I40 := PA1.keep K33 nin0
        have I41 := PT1.keep K33 nin0
        exact K.areturn dSH_88 rfl rfl rfl (by decide) (by decide) ⟨_, rfl, K38, ks37, e35, c, w, by omega, hi_ ▸ hP, A36.congr (fun j j1 j2 => by rw [intF, intF, hG _ (own_below (by omega) j1 j2)])⟩
  exact LOOP n 0 0 _ _ (fun _ => 0) (fun _ => 0) (by omega) (by omega) (by omega) (PMin.zero _ _) (Lst.zero _) (fun j hj => absurd hj (by omega)) F9 I10 A7 K8
set_option maxRecDepth 65536 in
set_option maxHeartbeats 40000000 in
theorem rmEN (l : Launch) (Z : State) (a0 : Array Value) (hw : ∀ d ∈ tables_1, d.before a0 Z = true) (ek aq cq pq oq kd su sa pg ga ag op ki na de pa sb : Addr) (fd : Int32 → Value) (st : Int32) (n : Nat) (pd ob oc ld lp : Int32) (e : Nat → Int32) (h : Heap) (n0 : Nat) (PO : Od ek kd su sa pg ga ag op ki na de pa sb) (gpg : n0 ≤ pg) (PT : Stt Z h ek aq cq pq oq kd fd) (PE : Exa Z h pg "com/example/horatius/horatius/core/OutlinePage") (PX : Exa Z h ga "com/example/horatius/horatius/core/PageSummary") (PX2 : Exa Z h su "com/example/horatius/horatius/core/PageSummary") (PP : Pg Z h pg su ki na de pa sb ga op st (Int32.ofNat n) (.ref ek) pd ob oc) (PG : Ga Z h ga ag (Int32.ofNat n) ld (.ref ek) lp) (PG2 : Ga Z h su sa (Int32.ofNat n) ld (.ref ek) lp) (A1 : Ia Z h ag .int (0 : Int32) (fun _ => .int 0)) (A2 : Ia Z h sa .int (0 : Int32) (fun _ => .int 0)) (A3 : Ia Z h de .int (Int32.ofNat n) (dF e n)) (hn1 : 1 ≤ n) (hn : n ≤ 4) (hmx : ∀ j, j < n → e j < (2147483647 : Int32)) : Con l Z ⟨"com/example/horatius/horatius/core/OutlinePage", "end", "()V"⟩ prog_19_method_8_code 1 none ({ frames := 4, cells := 4, slots := 32, locals := 79 } : Room) #[.ref pg] h n0 (fun vr h' => vr = none ∧ (Keep h h' [pg] ∧ ∃ (t : Addr) (m : Nat) (w : Nat → Nat), 1 ≤ m ∧ m ≤ 4 ∧ PMin (fun i => e (n - 1 - i)) n m w ∧ Fld Z h' pg "com/example/horatius/horatius/core/OutlinePage" "start" "I" (.int st) ∧ Fld Z h' pg "com/example/horatius/horatius/core/OutlinePage" "depths" "[I" (.ref de) ∧ Fld Z h' pg "com/example/horatius/horatius/core/OutlinePage" "shallowestToEnd" "[I" (.ref t) ∧ Ia Z h' t .int (Int32.ofNat m) (intF (fun j => Int32.ofNat (n - 1 - w (m - 1 - j)))) ∧ Ia Z h' de .int (Int32.ofNat n) (dF e n))) := by
  refine Con.of pnEN (fun m_ => efEN m_ pg) (fun E K => ?_)
  obtain ⟨⟨od_ek_pg, od_kd_pg, od_su_pg, od_sa_pg⟩, od_pg_ga, od_ga_ag, od_ag_op, od_op_ki, od_ki_na, od_na_de, od_de_pa, od_pa_sb⟩ := PO
  have od_pg_ag := Nat.lt_trans od_pg_ga od_ga_ag
  have od_pg_op := Nat.lt_trans od_pg_ag od_ag_op
  have od_pg_ki := Nat.lt_trans od_pg_op od_op_ki
  have od_pg_na := Nat.lt_trans od_pg_ki od_ki_na
  have od_pg_de := Nat.lt_trans od_pg_na od_na_de
  have od_pg_pa := Nat.lt_trans od_pg_de od_de_pa
  have od_pg_sb := Nat.lt_trans od_pg_pa od_pa_sb
  have od_ga_op := Nat.lt_trans od_ga_ag od_ag_op
  have od_ga_ki := Nat.lt_trans od_ga_op od_op_ki
  have od_ga_na := Nat.lt_trans od_ga_ki od_ki_na
  have od_ga_de := Nat.lt_trans od_ga_na od_na_de
  have od_ga_pa := Nat.lt_trans od_ga_de od_de_pa
  have od_ga_sb := Nat.lt_trans od_ga_pa od_pa_sb
  have od_ag_ki := Nat.lt_trans od_ag_op od_op_ki
  have od_ag_na := Nat.lt_trans od_ag_ki od_ki_na
  have od_ag_de := Nat.lt_trans od_ag_na od_na_de
  have od_ag_pa := Nat.lt_trans od_ag_de od_de_pa
  have od_ag_sb := Nat.lt_trans od_ag_pa od_pa_sb
  have od_op_na := Nat.lt_trans od_op_ki od_ki_na
  have od_op_de := Nat.lt_trans od_op_na od_na_de
  have od_op_pa := Nat.lt_trans od_op_de od_de_pa
  have od_op_sb := Nat.lt_trans od_op_pa od_pa_sb
  have od_ki_de := Nat.lt_trans od_ki_na od_na_de
  have od_ki_pa := Nat.lt_trans od_ki_de od_de_pa
  have od_ki_sb := Nat.lt_trans od_ki_pa od_pa_sb
  have od_na_pa := Nat.lt_trans od_na_de od_de_pa
  have od_na_sb := Nat.lt_trans od_na_pa od_pa_sb
  have od_de_sb := Nat.lt_trans od_de_pa od_pa_sb
  have od_ek_ga := Nat.lt_trans od_ek_pg od_pg_ga
  have od_ek_ag := Nat.lt_trans od_ek_pg od_pg_ag
  have od_ek_op := Nat.lt_trans od_ek_pg od_pg_op
  have od_ek_ki := Nat.lt_trans od_ek_pg od_pg_ki
  have od_ek_na := Nat.lt_trans od_ek_pg od_pg_na
  have od_ek_de := Nat.lt_trans od_ek_pg od_pg_de
  have od_ek_pa := Nat.lt_trans od_ek_pg od_pg_pa
  have od_ek_sb := Nat.lt_trans od_ek_pg od_pg_sb
  have od_kd_ga := Nat.lt_trans od_kd_pg od_pg_ga
  have od_kd_ag := Nat.lt_trans od_kd_pg od_pg_ag
  have od_kd_op := Nat.lt_trans od_kd_pg od_pg_op
  have od_kd_ki := Nat.lt_trans od_kd_pg od_pg_ki
  have od_kd_na := Nat.lt_trans od_kd_pg od_pg_na
  have od_kd_de := Nat.lt_trans od_kd_pg od_pg_de
  have od_kd_pa := Nat.lt_trans od_kd_pg od_pg_pa
  have od_kd_sb := Nat.lt_trans od_kd_pg od_pg_sb
  have od_su_ga := Nat.lt_trans od_su_pg od_pg_ga
  have od_su_ag := Nat.lt_trans od_su_pg od_pg_ag
  have od_su_op := Nat.lt_trans od_su_pg od_pg_op
  have od_su_ki := Nat.lt_trans od_su_pg od_pg_ki
  have od_su_na := Nat.lt_trans od_su_pg od_pg_na
  have od_su_de := Nat.lt_trans od_su_pg od_pg_de
  have od_su_pa := Nat.lt_trans od_su_pg od_pg_pa
  have od_su_sb := Nat.lt_trans od_su_pg od_pg_sb
  have od_sa_ga := Nat.lt_trans od_sa_pg od_pg_ga
  have od_sa_ag := Nat.lt_trans od_sa_pg od_pg_ag
  have od_sa_op := Nat.lt_trans od_sa_pg od_pg_op
  have od_sa_ki := Nat.lt_trans od_sa_pg od_pg_ki
  have od_sa_na := Nat.lt_trans od_sa_pg od_pg_na
  have od_sa_de := Nat.lt_trans od_sa_pg od_pg_de
  have od_sa_pa := Nat.lt_trans od_sa_pg od_pg_pa
  have od_sa_sb := Nat.lt_trans od_sa_pg od_pg_sb
  have ge_ga := Nat.le_trans gpg (Nat.le_of_lt od_pg_ga)
  have ge_ag := Nat.le_trans gpg (Nat.le_of_lt od_pg_ag)
  have ge_op := Nat.le_trans gpg (Nat.le_of_lt od_pg_op)
  have ge_ki := Nat.le_trans gpg (Nat.le_of_lt od_pg_ki)
  have ge_na := Nat.le_trans gpg (Nat.le_of_lt od_pg_na)
  have ge_de := Nat.le_trans gpg (Nat.le_of_lt od_pg_de)
  have ge_pa := Nat.le_trans gpg (Nat.le_of_lt od_pg_pa)
  have ge_sb := Nat.le_trans gpg (Nat.le_of_lt od_pg_sb)
  obtain ⟨S1, S2, S3, S4, S5, S6, I7, E8, F9, hfd, hna, hnc, hnp⟩ := PT
  obtain ⟨F10, F11, F12, F13, F14, F15, F16, F17, F18, F19, F20, F21, F22, F23, F24, F25, F26, F27⟩ := PP
  obtain ⟨F28, F29, F30, F31, F32, F33, F34, F35⟩ := PG
  obtain ⟨F36, F37, F38, F39, F40, F41, F42, F43⟩ := PG2
  have K44 : Keep h h [pg] := Keep.refl _ _
  refine K.aloadN dEN_0 rfl rfl ?_
  refine K.getF dEN_1 (wd62 hw) F18 ?_
  refine K.aloadN dEN_4 rfl rfl ?_
  refine K.getF dEN_5 (wd70 hw) F11 ?_
  refine K.callV (a := ga) [.ref su] [] 0 0 0 dEN_8 (wd176 hw) (wd177 hw) (wd179 hw) (wd178 hw) (wd9 hw) (wd180 hw) (by decide) (rmEQ l Z a0 hw ga su ag sa ek (Int32.ofNat n) ld lp h n0 PX2 ⟨F28, F29, F30, F31, F32, F33, F34, F35⟩ ⟨F36, F37, F38, F39, F40, F41, F42, F43⟩ A1 A2) PX rfl (lenOf pd_19 rfl) rfl (Nat.le_of_eq rfl) (by decide) (by decide) rfl rfl (by decide) (by decide) (goP ?_)
  refine K.if_ne dEN_11 (fun u => absurd u (by decide)) (fun _ => ?_)
  refine K.aloadN dEN_31 rfl rfl ?_
  refine K.aloadN dEN_32 rfl rfl ?_
  refine K.iconst (0 : Int32) dEN_33 rfl ?_
  refine K.aloadN dEN_34 rfl rfl ?_
  refine K.getF dEN_35 (wd120 hw) F19 ?_
  refine K.iconst (1 : Int32) dEN_38 rfl ?_
  refine K.callP (a := pg) [.int (0 : Int32), .int (Int32.ofNat n), .int (1 : Int32)] [.ref pg] 1 2 16 dEN_39 (wd194 hw) (wd196 hw) (own_selp (wd196 hw) (wd195 hw) (wd52 hw) (by decide)) (wd195 hw) (wd53 hw) (wd197 hw) (by decide) (rmSH l Z a0 hw pg de n e (fun i => i) Int32.ofNat (0 : Int32) (Int32.ofNat n) (1 : Int32) h n0 F15 A3 hn rfl rfl (own_up1 hn) own_up2 own_up3 hmx) PE rfl (lenOf pd_20 rfl) rfl (Nat.le_of_eq rfl) (by decide) (by decide) rfl rfl (by decide) (by decide) (goR fun t45 h46 q47 => ?_)
  obtain ⟨K48, g49, e50, c1, w1, hc1, P52, A51⟩ := q47
  have lt_ag_t45 : ag < t45 := Nat.lt_of_lt_of_le A1.lt g49
  have lt_de_t45 : de < t45 := Nat.lt_of_lt_of_le A3.lt g49
  have lt_ek_t45 : ek < t45 := Nat.lt_of_lt_of_le E8.lt g49
  have lt_ga_t45 : ga < t45 := Nat.lt_of_lt_of_le PX.lt g49
  have lt_kd_t45 : kd < t45 := Nat.lt_of_lt_of_le I7.lt g49
  have lt_pg_t45 : pg < t45 := Nat.lt_of_lt_of_le PE.lt g49
  have lt_sa_t45 : sa < t45 := Nat.lt_of_lt_of_le A2.lt g49
  have lt_su_t45 : su < t45 := Nat.lt_of_lt_of_le PX2.lt g49
  have ks53 := Nat.le_trans K44.1 g49
  have K54 := K44.trans K48 all0
  have S55 := staK S1 K48 all0
  have S56 := staK S2 K48 all0
  have S57 := staK S3 K48 all0
  have S58 := staK S4 K48 all0
  have S59 := staK S5 K48 all0
  have S60 := staK S6 K48 all0
  have I61 := I7.keep K48 nin0
  have E62 := E8.keep K48
  have F63 := F9.keep K48 nin0
  have E64 := PE.keep K48
  have E65 := PX.keep K48
  have E66 := PX2.keep K48
  have F67 := F10.keep K48 nin0
  have F68 := F11.keep K48 nin0
  have F69 := F12.keep K48 nin0
  have F70 := F13.keep K48 nin0
  have F71 := F14.keep K48 nin0
  have F72 := F15.keep K48 nin0
  have F73 := F16.keep K48 nin0
  have F74 := F17.keep K48 nin0
  have F75 := F18.keep K48 nin0
  have F76 := F19.keep K48 nin0
  have F77 := F20.keep K48 nin0
  have F78 := F21.keep K48 nin0
  have F79 := F22.keep K48 nin0
  have F80 := F23.keep K48 nin0
  have F81 := F24.keep K48 nin0
  have F82 := F25.keep K48 nin0
  have F83 := F26.keep K48 nin0
  have F84 := F27.keep K48 nin0
  have F85 := F28.keep K48 nin0
  have F86 := F29.keep K48 nin0
  have F87 := F30.keep K48 nin0
  have F88 := F31.keep K48 nin0
  have F89 := F32.keep K48 nin0
  have F90 := F33.keep K48 nin0
  have F91 := F34.keep K48 nin0
  have F92 := F35.keep K48 nin0
  have F93 := F36.keep K48 nin0
  have F94 := F37.keep K48 nin0
  have F95 := F38.keep K48 nin0
  have F96 := F39.keep K48 nin0
  have F97 := F40.keep K48 nin0
  have F98 := F41.keep K48 nin0
  have F99 := F42.keep K48 nin0
  have F100 := F43.keep K48 nin0
  have I101 := A1.keep K48 nin0
  have I102 := A2.keep K48 nin0
  have I103 := A3.keep K48 nin0
  refine K.putF dEN_42 (wd207 hw) F82 E64 (Or.inl (wd208 hw)) (wd52 hw) (ty := (.array .int)) (by decide) rfl rfl gpg (fun h104 W105 => ?_)
  have K106 := K54.wr W105 (Or.inl (List.mem_of_getElem? (i := 0) rfl))
  have S107 := S55.wr W105
  have S108 := S56.wr W105
  have S109 := S57.wr W105
  have S110 := S58.wr W105
  have S111 := S59.wr W105
  have S112 := S60.wr W105
  have I113 := I61.other W105 (Nat.ne_of_lt od_kd_pg)
  have E114 := E62.wr W105
  have F115 := F63.other W105 (Or.inl (Nat.ne_of_lt od_ek_pg))
  have E116 := E64.wr W105
  have E117 := E65.wr W105
  have E118 := E66.wr W105
  have F119 := F67.other W105 (Or.inr (RoadKit.slot_ne (Or.inr (wd69 hw)) (Or.inl (wd208 hw)) (by decide) (t := .int) (t' := (.array .int)) (by decide) (by decide)))
  have F120 := F68.other W105 (Or.inr (RoadKit.slot_ne (Or.inr (wd71 hw)) (Or.inl (wd208 hw)) (by decide) (t := (.object "com/example/horatius/horatius/core/PageSummary")) (t' := (.array .int)) (by decide) (by decide)))
  have F121 := F69.other W105 (Or.inr (RoadKit.slot_ne (Or.inr (wd73 hw)) (Or.inl (wd208 hw)) (by decide) (t := .int) (t' := (.array .int)) (by decide) (by decide)))
  have F122 := F70.other W105 (Or.inr (RoadKit.slot_ne (Or.inr (wd98 hw)) (Or.inl (wd208 hw)) (by decide) (t := (.array .byte)) (t' := (.array .int)) (by decide) (by decide)))
  have F123 := F71.other W105 (Or.inr (RoadKit.slot_ne (Or.inr (wd100 hw)) (Or.inl (wd208 hw)) (by decide) (t := (.array .int)) (t' := (.array .int)) (by decide) (by decide)))
  have F124 := F72.other W105 (Or.inr (RoadKit.slot_ne (Or.inr (wd102 hw)) (Or.inl (wd208 hw)) (by decide) (t := (.array .int)) (t' := (.array .int)) (by decide) (by decide)))
  have F125 := F73.other W105 (Or.inr (RoadKit.slot_ne (Or.inr (wd104 hw)) (Or.inl (wd208 hw)) (by decide) (t := (.array .int)) (t' := (.array .int)) (by decide) (by decide)))
  have F126 := F74.other W105 (Or.inr (RoadKit.slot_ne (Or.inr (wd106 hw)) (Or.inl (wd208 hw)) (by decide) (t := (.array .int)) (t' := (.array .int)) (by decide) (by decide)))
  have F127 := F75.other W105 (Or.inr (RoadKit.slot_ne (Or.inr (wd63 hw)) (Or.inl (wd208 hw)) (by decide) (t := (.object "com/example/horatius/horatius/core/PageSummary")) (t' := (.array .int)) (by decide) (by decide)))
  have F128 := F76.other W105 (Or.inr (RoadKit.slot_ne (Or.inl (wd121 hw)) (Or.inl (wd208 hw)) (by decide) (t := .int) (t' := (.array .int)) (by decide) (by decide)))
  have F129 := F77.other W105 (Or.inr (RoadKit.slot_ne (Or.inl (wd80 hw)) (Or.inl (wd208 hw)) (by decide) (t := (.object "com/example/horatius/horatius/core/NodeKind")) (t' := (.array .int)) (by decide) (by decide)))
  have F130 := F78.other W105 (Or.inr (RoadKit.slot_ne (Or.inl (wd87 hw)) (Or.inl (wd208 hw)) (by decide) (t := .int) (t' := (.array .int)) (by decide) (by decide)))
  have F131 := F79.other W105 (Or.inr (RoadKit.slot_ne (Or.inl (wd90 hw)) (Or.inl (wd208 hw)) (by decide) (t := .int) (t' := (.array .int)) (by decide) (by decide)))
  have F132 := F80.other W105 (Or.inr (RoadKit.slot_ne (Or.inl (wd65 hw)) (Or.inl (wd208 hw)) (by decide) (t := (.array .int)) (t' := (.array .int)) (by decide) (by decide)))
  have F133 := F81.other W105 (Or.inr (RoadKit.slot_ne (Or.inl (wd123 hw)) (Or.inl (wd208 hw)) (by decide) (t := .int) (t' := (.array .int)) (by decide) (by decide)))
  have F134 := F82.same W105
  have F135 := F83.other W105 (Or.inr (RoadKit.slot_ne (Or.inl (wd210 hw)) (Or.inl (wd208 hw)) (by decide) (t := (.array .int)) (t' := (.array .int)) (by decide) (by decide)))
  have F136 := F84.other W105 (Or.inr (RoadKit.slot_ne (Or.inl (wd142 hw)) (Or.inl (wd208 hw)) (by decide) (t := .boolean) (t' := (.array .int)) (by decide) (by decide)))
  have F137 := F85.other W105 (Or.inl (Nat.ne_of_gt od_pg_ga))
  have F138 := F86.other W105 (Or.inl (Nat.ne_of_gt od_pg_ga))
  have F139 := F87.other W105 (Or.inl (Nat.ne_of_gt od_pg_ga))
  have F140 := F88.other W105 (Or.inl (Nat.ne_of_gt od_pg_ga))
  have F141 := F89.other W105 (Or.inl (Nat.ne_of_gt od_pg_ga))
  have F142 := F90.other W105 (Or.inl (Nat.ne_of_gt od_pg_ga))
  have F143 := F91.other W105 (Or.inl (Nat.ne_of_gt od_pg_ga))
  have F144 := F92.other W105 (Or.inl (Nat.ne_of_gt od_pg_ga))
  have F145 := F93.other W105 (Or.inl (Nat.ne_of_lt od_su_pg))
  have F146 := F94.other W105 (Or.inl (Nat.ne_of_lt od_su_pg))
  have F147 := F95.other W105 (Or.inl (Nat.ne_of_lt od_su_pg))
  have F148 := F96.other W105 (Or.inl (Nat.ne_of_lt od_su_pg))
  have F149 := F97.other W105 (Or.inl (Nat.ne_of_lt od_su_pg))
  have F150 := F98.other W105 (Or.inl (Nat.ne_of_lt od_su_pg))
  have F151 := F99.other W105 (Or.inl (Nat.ne_of_lt od_su_pg))
  have F152 := F100.other W105 (Or.inl (Nat.ne_of_lt od_su_pg))
  have I153 := I101.other W105 (Nat.ne_of_gt od_pg_ag)
  have I154 := I102.other W105 (Nat.ne_of_lt od_sa_pg)
  have I155 := I103.other W105 (Nat.ne_of_gt od_pg_de)
  have I156 := A51.other W105 (Nat.ne_of_gt lt_pg_t45)
  refine K.aloadN dEN_45 rfl rfl ?_
  refine K.aloadN dEN_46 rfl rfl ?_
  refine K.aloadN dEN_47 rfl rfl ?_
  refine K.getF dEN_48 (wd120 hw) F128 ?_
  refine K.iconst (1 : Int32) dEN_51 rfl ?_
  refine K.isub dEN_52 ?_
  rw [own_dsub hn1]
  refine K.iconst (-1 : Int32) dEN_53 rfl ?_
  refine K.iconst (-1 : Int32) dEN_54 rfl ?_
  refine K.callP (a := pg) [.int (Int32.ofNat (n - 1)), .int (-1 : Int32), .int (-1 : Int32)] [.ref pg] 1 4 32 dEN_55 (wd194 hw) (wd196 hw) (own_selp (wd196 hw) (wd195 hw) (wd52 hw) (by decide)) (wd195 hw) (wd53 hw) (wd197 hw) (by decide) (rmSH l Z a0 hw pg de n e (fun i => n - 1 - i) (own_down n) (Int32.ofNat (n - 1)) (-1 : Int32) (-1 : Int32) h104 n0 F124 I155 hn (own_dn0 hn1) own_dn1 (own_dn2 hn) (own_dn3 hn) own_dn4 hmx) E116 rfl (lenOf pd_20 rfl) rfl (Nat.le_of_eq rfl) (by decide) (by decide) rfl rfl (by decide) (by decide) (goR fun t157 h158 q159 => ?_)
  obtain ⟨K160, g161, e162, c2, w2, hc2, P164, A163⟩ := q159
  have lt_ag_t157 : ag < t157 := Nat.lt_of_lt_of_le I153.lt g161
  have lt_de_t157 : de < t157 := Nat.lt_of_lt_of_le I155.lt g161
  have lt_ek_t157 : ek < t157 := Nat.lt_of_lt_of_le E114.lt g161
  have lt_ga_t157 : ga < t157 := Nat.lt_of_lt_of_le E117.lt g161
  have lt_kd_t157 : kd < t157 := Nat.lt_of_lt_of_le I113.lt g161
  have lt_pg_t157 : pg < t157 := Nat.lt_of_lt_of_le E116.lt g161
  have lt_sa_t157 : sa < t157 := Nat.lt_of_lt_of_le I154.lt g161
  have lt_su_t157 : su < t157 := Nat.lt_of_lt_of_le E118.lt g161
  have lt_t45_t157 : t45 < t157 := Nat.lt_of_lt_of_le I156.lt g161
  have ks165 := Nat.le_trans K106.1 g161
  have K166 := K106.trans K160 all0
  have S167 := staK S107 K160 all0
  have S168 := staK S108 K160 all0
  have S169 := staK S109 K160 all0
  have S170 := staK S110 K160 all0
  have S171 := staK S111 K160 all0
  have S172 := staK S112 K160 all0
  have I173 := I113.keep K160 nin0
  have E174 := E114.keep K160
  have F175 := F115.keep K160 nin0
  have E176 := E116.keep K160
  have E177 := E117.keep K160
  have E178 := E118.keep K160
  have F179 := F119.keep K160 nin0
  have F180 := F120.keep K160 nin0
  have F181 := F121.keep K160 nin0
  have F182 := F122.keep K160 nin0
  have F183 := F123.keep K160 nin0
  have F184 := F124.keep K160 nin0
  have F185 := F125.keep K160 nin0
  have F186 := F126.keep K160 nin0
  have F187 := F127.keep K160 nin0
  have F188 := F128.keep K160 nin0
  have F189 := F129.keep K160 nin0
  have F190 := F130.keep K160 nin0
  have F191 := F131.keep K160 nin0
  have F192 := F132.keep K160 nin0
  have F193 := F133.keep K160 nin0
  have F194 := F134.keep K160 nin0
  have F195 := F135.keep K160 nin0
  have F196 := F136.keep K160 nin0
  have F197 := F137.keep K160 nin0
  have F198 := F138.keep K160 nin0
  have F199 := F139.keep K160 nin0
  have F200 := F140.keep K160 nin0
  have F201 := F141.keep K160 nin0
  have F202 := F142.keep K160 nin0
  have F203 := F143.keep K160 nin0
  have F204 := F144.keep K160 nin0
  have F205 := F145.keep K160 nin0
  have F206 := F146.keep K160 nin0
  have F207 := F147.keep K160 nin0
  have F208 := F148.keep K160 nin0
  have F209 := F149.keep K160 nin0
  have F210 := F150.keep K160 nin0
  have F211 := F151.keep K160 nin0
  have F212 := F152.keep K160 nin0
  have I213 := I153.keep K160 nin0
  have I214 := I154.keep K160 nin0
  have I215 := I155.keep K160 nin0
  have I216 := I156.keep K160 nin0
  have hc1 := P164.pos hn1
  have hp := own_hp hn P164
  refine K.putF dEN_58 (wd209 hw) F195 E176 (Or.inl (wd210 hw)) (wd52 hw) (ty := (.array .int)) (by decide) rfl rfl gpg (fun h217 W218 => ?_)
  have K219 := K166.wr W218 (Or.inl (List.mem_of_getElem? (i := 0) rfl))
  have S220 := S167.wr W218
  have S221 := S168.wr W218
  have S222 := S169.wr W218
  have S223 := S170.wr W218
  have S224 := S171.wr W218
  have S225 := S172.wr W218
  have I226 := I173.other W218 (Nat.ne_of_lt od_kd_pg)
  have E227 := E174.wr W218
  have F228 := F175.other W218 (Or.inl (Nat.ne_of_lt od_ek_pg))
  have E229 := E176.wr W218
  have E230 := E177.wr W218
  have E231 := E178.wr W218
  have F232 := F179.other W218 (Or.inr (RoadKit.slot_ne (Or.inr (wd69 hw)) (Or.inl (wd210 hw)) (by decide) (t := .int) (t' := (.array .int)) (by decide) (by decide)))
  have F233 := F180.other W218 (Or.inr (RoadKit.slot_ne (Or.inr (wd71 hw)) (Or.inl (wd210 hw)) (by decide) (t := (.object "com/example/horatius/horatius/core/PageSummary")) (t' := (.array .int)) (by decide) (by decide)))
  have F234 := F181.other W218 (Or.inr (RoadKit.slot_ne (Or.inr (wd73 hw)) (Or.inl (wd210 hw)) (by decide) (t := .int) (t' := (.array .int)) (by decide) (by decide)))
  have F235 := F182.other W218 (Or.inr (RoadKit.slot_ne (Or.inr (wd98 hw)) (Or.inl (wd210 hw)) (by decide) (t := (.array .byte)) (t' := (.array .int)) (by decide) (by decide)))
  have F236 := F183.other W218 (Or.inr (RoadKit.slot_ne (Or.inr (wd100 hw)) (Or.inl (wd210 hw)) (by decide) (t := (.array .int)) (t' := (.array .int)) (by decide) (by decide)))
  have F237 := F184.other W218 (Or.inr (RoadKit.slot_ne (Or.inr (wd102 hw)) (Or.inl (wd210 hw)) (by decide) (t := (.array .int)) (t' := (.array .int)) (by decide) (by decide)))
  have F238 := F185.other W218 (Or.inr (RoadKit.slot_ne (Or.inr (wd104 hw)) (Or.inl (wd210 hw)) (by decide) (t := (.array .int)) (t' := (.array .int)) (by decide) (by decide)))
  have F239 := F186.other W218 (Or.inr (RoadKit.slot_ne (Or.inr (wd106 hw)) (Or.inl (wd210 hw)) (by decide) (t := (.array .int)) (t' := (.array .int)) (by decide) (by decide)))
  have F240 := F187.other W218 (Or.inr (RoadKit.slot_ne (Or.inr (wd63 hw)) (Or.inl (wd210 hw)) (by decide) (t := (.object "com/example/horatius/horatius/core/PageSummary")) (t' := (.array .int)) (by decide) (by decide)))
  have F241 := F188.other W218 (Or.inr (RoadKit.slot_ne (Or.inl (wd121 hw)) (Or.inl (wd210 hw)) (by decide) (t := .int) (t' := (.array .int)) (by decide) (by decide)))
  have F242 := F189.other W218 (Or.inr (RoadKit.slot_ne (Or.inl (wd80 hw)) (Or.inl (wd210 hw)) (by decide) (t := (.object "com/example/horatius/horatius/core/NodeKind")) (t' := (.array .int)) (by decide) (by decide)))
  have F243 := F190.other W218 (Or.inr (RoadKit.slot_ne (Or.inl (wd87 hw)) (Or.inl (wd210 hw)) (by decide) (t := .int) (t' := (.array .int)) (by decide) (by decide)))
  have F244 := F191.other W218 (Or.inr (RoadKit.slot_ne (Or.inl (wd90 hw)) (Or.inl (wd210 hw)) (by decide) (t := .int) (t' := (.array .int)) (by decide) (by decide)))
  have F245 := F192.other W218 (Or.inr (RoadKit.slot_ne (Or.inl (wd65 hw)) (Or.inl (wd210 hw)) (by decide) (t := (.array .int)) (t' := (.array .int)) (by decide) (by decide)))
  have F246 := F193.other W218 (Or.inr (RoadKit.slot_ne (Or.inl (wd123 hw)) (Or.inl (wd210 hw)) (by decide) (t := .int) (t' := (.array .int)) (by decide) (by decide)))
  have F247 := F194.other W218 (Or.inr (RoadKit.slot_ne (Or.inl (wd208 hw)) (Or.inl (wd210 hw)) (by decide) (t := (.array .int)) (t' := (.array .int)) (by decide) (by decide)))
  have F248 := F195.same W218
  have F249 := F196.other W218 (Or.inr (RoadKit.slot_ne (Or.inl (wd142 hw)) (Or.inl (wd210 hw)) (by decide) (t := .boolean) (t' := (.array .int)) (by decide) (by decide)))
  have F250 := F197.other W218 (Or.inl (Nat.ne_of_gt od_pg_ga))
  have F251 := F198.other W218 (Or.inl (Nat.ne_of_gt od_pg_ga))
  have F252 := F199.other W218 (Or.inl (Nat.ne_of_gt od_pg_ga))
  have F253 := F200.other W218 (Or.inl (Nat.ne_of_gt od_pg_ga))
  have F254 := F201.other W218 (Or.inl (Nat.ne_of_gt od_pg_ga))
  have F255 := F202.other W218 (Or.inl (Nat.ne_of_gt od_pg_ga))
  have F256 := F203.other W218 (Or.inl (Nat.ne_of_gt od_pg_ga))
  have F257 := F204.other W218 (Or.inl (Nat.ne_of_gt od_pg_ga))
  have F258 := F205.other W218 (Or.inl (Nat.ne_of_lt od_su_pg))
  have F259 := F206.other W218 (Or.inl (Nat.ne_of_lt od_su_pg))
  have F260 := F207.other W218 (Or.inl (Nat.ne_of_lt od_su_pg))
  have F261 := F208.other W218 (Or.inl (Nat.ne_of_lt od_su_pg))
  have F262 := F209.other W218 (Or.inl (Nat.ne_of_lt od_su_pg))
  have F263 := F210.other W218 (Or.inl (Nat.ne_of_lt od_su_pg))
  have F264 := F211.other W218 (Or.inl (Nat.ne_of_lt od_su_pg))
  have F265 := F212.other W218 (Or.inl (Nat.ne_of_lt od_su_pg))
  have I266 := I213.other W218 (Nat.ne_of_gt od_pg_ag)
  have I267 := I214.other W218 (Nat.ne_of_lt od_sa_pg)
  have I268 := I215.other W218 (Nat.ne_of_gt od_pg_de)
  have I269 := I216.other W218 (Nat.ne_of_gt lt_pg_t45)
  have I270 := A163.other W218 (Nat.ne_of_gt lt_pg_t157)
  refine K.aloadN dEN_61 rfl rfl ?_
  refine K.getF dEN_62 (wd209 hw) F248 ?_
  refine K.callS [.ref t157] [] 0 4 32 dEN_65 (wd211 hw) (wd212 hw) (wd185 hw) (wd213 hw) (by decide) (rmSO l Z a0 hw t157 c2 (fun j => (own_down n) (w2 j)) h217 n0 I270 e162 (by omega) hp) rfl (lenOf pd_21 rfl) rfl (Nat.le_of_eq rfl) (by decide) (by decide) rfl rfl (by decide) (by decide) (goU fun h271 q272 => ?_)
  obtain ⟨K273, A274⟩ := q272
  have K275 := K219.trans K273 (allS (Or.inr ks165) all0)
  have S276 := staK S220 K273 (allS (plA I270) all0)
  have S277 := staK S221 K273 (allS (plA I270) all0)
  have S278 := staK S222 K273 (allS (plA I270) all0)
  have S279 := staK S223 K273 (allS (plA I270) all0)
  have S280 := staK S224 K273 (allS (plA I270) all0)
  have S281 := staK S225 K273 (allS (plA I270) all0)
  have I282 := I226.keep K273 (ninS (Nat.ne_of_lt lt_kd_t157) nin0)
  have E283 := E227.keep K273
  have F284 := F228.keep K273 (ninS (Nat.ne_of_lt lt_ek_t157) nin0)
  have E285 := E229.keep K273
  have E286 := E230.keep K273
  have E287 := E231.keep K273
  have F288 := F232.keep K273 (ninS (Nat.ne_of_lt lt_pg_t157) nin0)
  have F289 := F233.keep K273 (ninS (Nat.ne_of_lt lt_pg_t157) nin0)
  have F290 := F234.keep K273 (ninS (Nat.ne_of_lt lt_pg_t157) nin0)
  have F291 := F235.keep K273 (ninS (Nat.ne_of_lt lt_pg_t157) nin0)
  have F292 := F236.keep K273 (ninS (Nat.ne_of_lt lt_pg_t157) nin0)
  have F293 := F237.keep K273 (ninS (Nat.ne_of_lt lt_pg_t157) nin0)
  have F294 := F238.keep K273 (ninS (Nat.ne_of_lt lt_pg_t157) nin0)
  have F295 := F239.keep K273 (ninS (Nat.ne_of_lt lt_pg_t157) nin0)
  have F296 := F240.keep K273 (ninS (Nat.ne_of_lt lt_pg_t157) nin0)
  have F297 := F241.keep K273 (ninS (Nat.ne_of_lt lt_pg_t157) nin0)
  have F298 := F242.keep K273 (ninS (Nat.ne_of_lt lt_pg_t157) nin0)
  have F299 := F243.keep K273 (ninS (Nat.ne_of_lt lt_pg_t157) nin0)
  have F300 := F244.keep K273 (ninS (Nat.ne_of_lt lt_pg_t157) nin0)
  have F301 := F245.keep K273 (ninS (Nat.ne_of_lt lt_pg_t157) nin0)
  have F302 := F246.keep K273 (ninS (Nat.ne_of_lt lt_pg_t157) nin0)
  have F303 := F247.keep K273 (ninS (Nat.ne_of_lt lt_pg_t157) nin0)
  have F304 := F248.keep K273 (ninS (Nat.ne_of_lt lt_pg_t157) nin0)
  have F305 := F249.keep K273 (ninS (Nat.ne_of_lt lt_pg_t157) nin0)
  have F306 := F250.keep K273 (ninS (Nat.ne_of_lt lt_ga_t157) nin0)
  have F307 := F251.keep K273 (ninS (Nat.ne_of_lt lt_ga_t157) nin0)
  have F308 := F252.keep K273 (ninS (Nat.ne_of_lt lt_ga_t157) nin0)
  have F309 := F253.keep K273 (ninS (Nat.ne_of_lt lt_ga_t157) nin0)
  have F310 := F254.keep K273 (ninS (Nat.ne_of_lt lt_ga_t157) nin0)
  have F311 := F255.keep K273 (ninS (Nat.ne_of_lt lt_ga_t157) nin0)
  have F312 := F256.keep K273 (ninS (Nat.ne_of_lt lt_ga_t157) nin0)
  have F313 := F257.keep K273 (ninS (Nat.ne_of_lt lt_ga_t157) nin0)
  have F314 := F258.keep K273 (ninS (Nat.ne_of_lt lt_su_t157) nin0)
  have F315 := F259.keep K273 (ninS (Nat.ne_of_lt lt_su_t157) nin0)
  have F316 := F260.keep K273 (ninS (Nat.ne_of_lt lt_su_t157) nin0)
  have F317 := F261.keep K273 (ninS (Nat.ne_of_lt lt_su_t157) nin0)
  have F318 := F262.keep K273 (ninS (Nat.ne_of_lt lt_su_t157) nin0)
  have F319 := F263.keep K273 (ninS (Nat.ne_of_lt lt_su_t157) nin0)
  have F320 := F264.keep K273 (ninS (Nat.ne_of_lt lt_su_t157) nin0)
  have F321 := F265.keep K273 (ninS (Nat.ne_of_lt lt_su_t157) nin0)
  have I322 := I266.keep K273 (ninS (Nat.ne_of_lt lt_ag_t157) nin0)
  have I323 := I267.keep K273 (ninS (Nat.ne_of_lt lt_sa_t157) nin0)
  have I324 := I268.keep K273 (ninS (Nat.ne_of_lt lt_de_t157) nin0)
  have I325 := I269.keep K273 (ninS (Nat.ne_of_lt lt_t45_t157) nin0)
  refine K.aloadN dEN_68 rfl rfl ?_
  refine K.iconst (1 : Int32) dEN_69 rfl ?_
  refine K.putF dEN_70 (wd141 hw) F305 E285 (Or.inl (wd142 hw)) (wd52 hw) (ty := .boolean) (by decide) rfl rfl gpg (fun h326 W327 => ?_)
  have K328 := K275.wr W327 (Or.inl (List.mem_of_getElem? (i := 0) rfl))
  have S329 := S276.wr W327
  have S330 := S277.wr W327
  have S331 := S278.wr W327
  have S332 := S279.wr W327
  have S333 := S280.wr W327
  have S334 := S281.wr W327
  have I335 := I282.other W327 (Nat.ne_of_lt od_kd_pg)
  have E336 := E283.wr W327
  have F337 := F284.other W327 (Or.inl (Nat.ne_of_lt od_ek_pg))
  have E338 := E285.wr W327
  have E339 := E286.wr W327
  have E340 := E287.wr W327
  have F341 := F288.other W327 (Or.inr (RoadKit.slot_ne (Or.inr (wd69 hw)) (Or.inl (wd142 hw)) (by decide) (t := .int) (t' := .boolean) (by decide) (by decide)))
  have F342 := F289.other W327 (Or.inr (RoadKit.slot_ne (Or.inr (wd71 hw)) (Or.inl (wd142 hw)) (by decide) (t := (.object "com/example/horatius/horatius/core/PageSummary")) (t' := .boolean) (by decide) (by decide)))
  have F343 := F290.other W327 (Or.inr (RoadKit.slot_ne (Or.inr (wd73 hw)) (Or.inl (wd142 hw)) (by decide) (t := .int) (t' := .boolean) (by decide) (by decide)))
  have F344 := F291.other W327 (Or.inr (RoadKit.slot_ne (Or.inr (wd98 hw)) (Or.inl (wd142 hw)) (by decide) (t := (.array .byte)) (t' := .boolean) (by decide) (by decide)))
  have F345 := F292.other W327 (Or.inr (RoadKit.slot_ne (Or.inr (wd100 hw)) (Or.inl (wd142 hw)) (by decide) (t := (.array .int)) (t' := .boolean) (by decide) (by decide)))
  have F346 := F293.other W327 (Or.inr (RoadKit.slot_ne (Or.inr (wd102 hw)) (Or.inl (wd142 hw)) (by decide) (t := (.array .int)) (t' := .boolean) (by decide) (by decide)))
  have F347 := F294.other W327 (Or.inr (RoadKit.slot_ne (Or.inr (wd104 hw)) (Or.inl (wd142 hw)) (by decide) (t := (.array .int)) (t' := .boolean) (by decide) (by decide)))
  have F348 := F295.other W327 (Or.inr (RoadKit.slot_ne (Or.inr (wd106 hw)) (Or.inl (wd142 hw)) (by decide) (t := (.array .int)) (t' := .boolean) (by decide) (by decide)))
  have F349 := F296.other W327 (Or.inr (RoadKit.slot_ne (Or.inr (wd63 hw)) (Or.inl (wd142 hw)) (by decide) (t := (.object "com/example/horatius/horatius/core/PageSummary")) (t' := .boolean) (by decide) (by decide)))
  have F350 := F297.other W327 (Or.inr (RoadKit.slot_ne (Or.inl (wd121 hw)) (Or.inl (wd142 hw)) (by decide) (t := .int) (t' := .boolean) (by decide) (by decide)))
  have F351 := F298.other W327 (Or.inr (RoadKit.slot_ne (Or.inl (wd80 hw)) (Or.inl (wd142 hw)) (by decide) (t := (.object "com/example/horatius/horatius/core/NodeKind")) (t' := .boolean) (by decide) (by decide)))
  have F352 := F299.other W327 (Or.inr (RoadKit.slot_ne (Or.inl (wd87 hw)) (Or.inl (wd142 hw)) (by decide) (t := .int) (t' := .boolean) (by decide) (by decide)))
  have F353 := F300.other W327 (Or.inr (RoadKit.slot_ne (Or.inl (wd90 hw)) (Or.inl (wd142 hw)) (by decide) (t := .int) (t' := .boolean) (by decide) (by decide)))
  have F354 := F301.other W327 (Or.inr (RoadKit.slot_ne (Or.inl (wd65 hw)) (Or.inl (wd142 hw)) (by decide) (t := (.array .int)) (t' := .boolean) (by decide) (by decide)))
  have F355 := F302.other W327 (Or.inr (RoadKit.slot_ne (Or.inl (wd123 hw)) (Or.inl (wd142 hw)) (by decide) (t := .int) (t' := .boolean) (by decide) (by decide)))
  have F356 := F303.other W327 (Or.inr (RoadKit.slot_ne (Or.inl (wd208 hw)) (Or.inl (wd142 hw)) (by decide) (t := (.array .int)) (t' := .boolean) (by decide) (by decide)))
  have F357 := F304.other W327 (Or.inr (RoadKit.slot_ne (Or.inl (wd210 hw)) (Or.inl (wd142 hw)) (by decide) (t := (.array .int)) (t' := .boolean) (by decide) (by decide)))
  have F358 := F305.same W327
  have F359 := F306.other W327 (Or.inl (Nat.ne_of_gt od_pg_ga))
  have F360 := F307.other W327 (Or.inl (Nat.ne_of_gt od_pg_ga))
  have F361 := F308.other W327 (Or.inl (Nat.ne_of_gt od_pg_ga))
  have F362 := F309.other W327 (Or.inl (Nat.ne_of_gt od_pg_ga))
  have F363 := F310.other W327 (Or.inl (Nat.ne_of_gt od_pg_ga))
  have F364 := F311.other W327 (Or.inl (Nat.ne_of_gt od_pg_ga))
  have F365 := F312.other W327 (Or.inl (Nat.ne_of_gt od_pg_ga))
  have F366 := F313.other W327 (Or.inl (Nat.ne_of_gt od_pg_ga))
  have F367 := F314.other W327 (Or.inl (Nat.ne_of_lt od_su_pg))
  have F368 := F315.other W327 (Or.inl (Nat.ne_of_lt od_su_pg))
  have F369 := F316.other W327 (Or.inl (Nat.ne_of_lt od_su_pg))
  have F370 := F317.other W327 (Or.inl (Nat.ne_of_lt od_su_pg))
  have F371 := F318.other W327 (Or.inl (Nat.ne_of_lt od_su_pg))
  have F372 := F319.other W327 (Or.inl (Nat.ne_of_lt od_su_pg))
  have F373 := F320.other W327 (Or.inl (Nat.ne_of_lt od_su_pg))
  have F374 := F321.other W327 (Or.inl (Nat.ne_of_lt od_su_pg))
  have I375 := I322.other W327 (Nat.ne_of_gt od_pg_ag)
  have I376 := I323.other W327 (Nat.ne_of_lt od_sa_pg)
  have I377 := I324.other W327 (Nat.ne_of_gt od_pg_de)
  have I378 := I325.other W327 (Nat.ne_of_gt lt_pg_t45)
  have I379 := A274.other W327 (Nat.ne_of_gt lt_pg_t157)
  exact K.ret dEN_73 (by decide) (by decide) ⟨rfl, K328, _, c2, w2, hc1, by omega, P164, F341, F346, F357, I379.congr (fun j j1 j2 => own_srt P164 (own_below (by omega) j1 j2)), I377⟩
set_option maxRecDepth 65536 in
set_option maxHeartbeats 40000000 in
theorem rmLA (l : Launch) (Z : State) (a0 : Array Value) (hw : ∀ d ∈ tables_1, d.before a0 Z = true) (pg de t : Addr) (st x : Int32) (n m jr : Nat) (e p : Nat → Int32) (q : Nat → Nat) (h : Heap) (n0 : Nat) (P1 : Fld Z h pg "com/example/horatius/horatius/core/OutlinePage" "start" "I" (.int st)) (P2 : Fld Z h pg "com/example/horatius/horatius/core/OutlinePage" "depths" "[I" (.ref de)) (P3 : Fld Z h pg "com/example/horatius/horatius/core/OutlinePage" "shallowestToEnd" "[I" (.ref t)) (A1 : Ia Z h de .int (Int32.ofNat n) (dF e n)) (A2 : Ia Z h t .int (Int32.ofNat m) (intF p)) (hn : n ≤ 4) (hm1 : 1 ≤ m) (hm : m ≤ 4) (hq : ∀ j, j < m → p j = Int32.ofNat (q j) ∧ q j < n) (hjr : jr < m) (H : ∀ j, j < m → (x < e (q j) ↔ jr < j)) : Con l Z ⟨"com/example/horatius/horatius/core/OutlinePage", "lastAtOrAbove", "(I)I"⟩ prog_19_method_22_code 5 (some .int) ({ frames := 0, cells := 0, slots := 0, locals := 0 } : Room) #[.ref pg, .int x] h n0 (fun vr h' => vr = some (.int (st + p jr)) ∧ h' = h) := by
  refine Con.of pnLA (fun m_ => efLA m_ pg x) (fun E K => ?_)
  refine K.iconst (0 : Int32) dLA_0 rfl ?_
  refine K.istoreN #[.val (.ref pg), .val (.int x), .val (.int (0 : Int32)), .unset, .unset] dLA_1 rfl ?_
  refine K.aloadN dLA_2 rfl rfl ?_
  refine K.getF dLA_3 (wd209 hw) P3 ?_
  refine K.arraylength dLA_6 A2 ?_
  refine K.iconst (1 : Int32) dLA_7 rfl ?_
  refine K.isub dLA_8 ?_
  rw [own_dsub hm1]
  refine K.istoreN #[.val (.ref pg), .val (.int x), .val (.int (0 : Int32)), .val (.int (Int32.ofNat (m - 1))), .unset] dLA_9 rfl ?_
  have LOOP : ∀ (d lo hi : Nat) (x4 : Slot), One x4 → hi ≤ lo + d → lo ≤ jr → jr ≤ hi → hi < m → Wk E h 0 0 10 #[.val (.ref pg), .val (.int x), .val (.int (Int32.ofNat lo)), .val (.int (Int32.ofNat hi)), x4] [] := by
    intro d
    induction d with
    | zero =>
      intro lo hi x4 hx4 hd h1 h2 h3
      refine K.iloadN dLA_10 rfl ?_
      refine K.iloadN dLA_11 rfl ?_
      refine K.ic_ge dLA_12 (fun u => absurd u (fun q => absurd ((own_lt (by omega) (by omega)).mp q) (by omega))) (fun _ => ?_)
      refine K.aloadN dLA_54 rfl rfl ?_
      refine K.getF dLA_55 (wd68 hw) P1 ?_
      refine K.aloadN dLA_58 rfl rfl ?_
      refine K.getF dLA_59 (wd209 hw) P3 ?_
      refine K.iloadN dLA_62 rfl ?_
      have el : lo = jr := by omega
      refine K.iaload (v := .int (p lo)) dLA_63 A2 (own_nn (by omega)) ((own_lt (by omega) (by omega)).mpr (by omega)) (own_ri p (by omega)) ?_
      refine K.iadd dLA_64 ?_
      exact K.ireturn dLA_65 (Or.inl rfl) rfl (by decide) (by decide) ⟨by rw [el], rfl⟩
    | succ d ih =>
      intro lo hi x4 hx4 hd h1 h2 h3
      by_cases hlt : lo < hi
      · obtain ⟨mi, emi⟩ : ∃ mi, mi = (lo + hi + 1) / 2 := ⟨_, rfl⟩
        refine K.iloadN dLA_10 rfl ?_
        refine K.iloadN dLA_11 rfl ?_
        refine K.ic_ge dLA_12 (fun _ => ?_) (fun u => absurd ((own_lt (by omega) (by omega)).mpr hlt) u)
        refine K.iloadN dLA_15 rfl ?_
        refine K.iloadN dLA_16 rfl ?_
        refine K.iadd dLA_17 ?_
        refine K.iconst (1 : Int32) dLA_18 rfl ?_
        refine K.iadd dLA_19 ?_
        refine K.iconst (1 : Int32) dLA_20 rfl ?_
        refine K.iushr dLA_21 ?_
        rw [own_mid lo (by omega) hi (by omega), ← emi]
        refine K.istore #[.val (.ref pg), .val (.int x), .val (.int (Int32.ofNat lo)), .val (.int (Int32.ofNat hi)), .val (.int (Int32.ofNat mi))] dLA_22 (XS.store1 rfl hx4 rfl) ?_
        refine K.aloadN dLA_24 rfl rfl ?_
        refine K.getF dLA_25 (wd101 hw) P2 ?_
        refine K.aloadN dLA_28 rfl rfl ?_
        refine K.getF dLA_29 (wd209 hw) P3 ?_
        refine K.iload dLA_32 rfl ?_
        obtain ⟨hq1, hq2⟩ := hq mi (by omega)
        refine K.iaload (v := .int (p mi)) dLA_34 A2 (own_nn (by omega)) ((own_lt (by omega) (by omega)).mpr (by omega)) (own_ri p (by omega)) ?_
        rw [hq1]
        refine K.iaload (v := .int (e (q mi))) dLA_35 A1 (own_nn (by omega)) ((own_lt (by omega) (by omega)).mpr hq2) (own_rd e hq2 (by omega)) ?_
        refine K.iloadN dLA_36 rfl ?_
        refine K.ic_gt dLA_37 (fun hc1 => ?_) (fun hc1 => ?_)
        · have hj := (H mi (by omega)).mp hc1
          refine K.iload dLA_46 rfl ?_
          refine K.iconst (1 : Int32) dLA_48 rfl ?_
          refine K.isub dLA_49 ?_
          rw [own_dsub (by omega)]
          refine K.istoreN #[.val (.ref pg), .val (.int x), .val (.int (Int32.ofNat lo)), .val (.int (Int32.ofNat (mi - 1))), .val (.int (Int32.ofNat mi))] dLA_50 rfl ?_
          refine K.goto dLA_51 ?_
          exact ih lo (mi - 1) _ (One.val rfl) (by omega) h1 (by omega) (by omega)
        · have hj : ¬ jr < mi := fun u => hc1 ((H mi (by omega)).mpr u)
          refine K.iload dLA_40 rfl ?_
          refine K.istoreN #[.val (.ref pg), .val (.int x), .val (.int (Int32.ofNat mi)), .val (.int (Int32.ofNat hi)), .val (.int (Int32.ofNat mi))] dLA_42 rfl ?_
          refine K.goto dLA_43 ?_
          refine K.goto dLA_51 ?_
          exact ih mi hi _ (One.val rfl) (by omega) (by omega) h2 h3
      · refine K.iloadN dLA_10 rfl ?_
        refine K.iloadN dLA_11 rfl ?_
        refine K.ic_ge dLA_12 (fun u => absurd u (fun q => absurd ((own_lt (by omega) (by omega)).mp q) (by omega))) (fun _ => ?_)
        refine K.aloadN dLA_54 rfl rfl ?_
        refine K.getF dLA_55 (wd68 hw) P1 ?_
        refine K.aloadN dLA_58 rfl rfl ?_
        refine K.getF dLA_59 (wd209 hw) P3 ?_
        refine K.iloadN dLA_62 rfl ?_
        have el : lo = jr := by omega
        refine K.iaload (v := .int (p lo)) dLA_63 A2 (own_nn (by omega)) ((own_lt (by omega) (by omega)).mpr (by omega)) (own_ri p (by omega)) ?_
        refine K.iadd dLA_64 ?_
        exact K.ireturn dLA_65 (Or.inl rfl) rfl (by decide) (by decide) ⟨by rw [el], rfl⟩
  exact LOOP m 0 (m - 1) _ (Or.inl rfl) (by omega) (by omega) (by omega) (by omega)
set_option maxRecDepth 65536 in
set_option maxHeartbeats 40000000 in
theorem rm0 (l : Launch) (Z : State) (a0 : Array Value) (hw : ∀ d ∈ tables_1, d.before a0 Z = true) (sh ba fi qu cn : Int32) (ek aq cq pq oq kd : Addr) (fd : Int32 → Value) (h : Heap) (n0 : Nat) (PT : Stt Z h ek aq cq pq oq kd fd) : Con l Z x code maxLocals ret room_1 #[.int sh, .int ba, .int fi, .int qu, .int cn] h n0 (fun v h' => v = some (.int 1)) := by
  refine Con.of pn0 (fun m_ => ef0 m_ sh ba fi qu cn) (fun E K => ?_)
  have PT' := PT
  obtain ⟨S1, S2, S3, S4, S5, S6, I7, E8, F9, hfd, hna, hnc, hnp⟩ := PT
  obtain ⟨n, en, hn1, hn4⟩ := own_cnt cn
  refine K.iconst (1 : Int32) d0_0 rfl ?_
  refine K.iload d0_1 rfl ?_
  refine K.iconst (3 : Int32) d0_3 rfl ?_
  refine K.iand d0_4 ?_
  refine K.iadd d0_5 ?_
  rw [en]
  obtain ⟨b, eb, hb1, hb2⟩ := own_base ba
  refine K.istore #[.val (.int sh), .val (.int ba), .val (.int fi), .val (.int qu), .val (.int cn), .val (.int (Int32.ofNat n)), .unset, .unset, .unset, .unset, .unset, .unset, .unset, .unset, .unset, .unset, .unset, .unset, .unset, .unset, .unset, .unset, .unset, .unset] d0_6 rfl ?_
  refine K.iconst (2 : Int32) d0_8 rfl ?_
  refine K.iloadN d0_9 rfl ?_
  refine K.ldcI d0_10 (wd0 hw) ?_
  refine K.iand d0_12 ?_
  refine K.ldcI d0_13 (wd1 hw) ?_
  refine K.irem d0_15 (by decide) ?_
  refine K.iadd d0_16 ?_
  rw [eb]
  obtain ⟨st, est, hs1, hs2⟩ := own_start fi
  refine K.istore #[.val (.int sh), .val (.int ba), .val (.int fi), .val (.int qu), .val (.int cn), .val (.int (Int32.ofNat n)), .val (.int b), .unset, .unset, .unset, .unset, .unset, .unset, .unset, .unset, .unset, .unset, .unset, .unset, .unset, .unset, .unset, .unset, .unset] d0_17 rfl ?_
  refine K.iconst (1 : Int32) d0_19 rfl ?_
  refine K.iloadN d0_20 rfl ?_
  refine K.ldcI d0_21 (wd0 hw) ?_
  refine K.iand d0_23 ?_
  refine K.ldcI d0_24 (wd2 hw) ?_
  refine K.irem d0_26 (by decide) ?_
  refine K.iadd d0_27 ?_
  rw [est]
  obtain ⟨o0, eo0, ho0a, ho0b⟩ := own_o0 sh
  refine K.istore #[.val (.int sh), .val (.int ba), .val (.int fi), .val (.int qu), .val (.int cn), .val (.int (Int32.ofNat n)), .val (.int b), .val (.int st), .unset, .unset, .unset, .unset, .unset, .unset, .unset, .unset, .unset, .unset, .unset, .unset, .unset, .unset, .unset, .unset] d0_28 rfl ?_
  refine K.iloadN d0_30 rfl ?_
  refine K.iconst (3 : Int32) d0_31 rfl ?_
  refine K.iand d0_32 ?_
  rw [eo0]
  refine K.istore #[.val (.int sh), .val (.int ba), .val (.int fi), .val (.int qu), .val (.int cn), .val (.int (Int32.ofNat n)), .val (.int b), .val (.int st), .val (.int o0), .unset, .unset, .unset, .unset, .unset, .unset, .unset, .unset, .unset, .unset, .unset, .unset, .unset, .unset, .unset] d0_33 rfl ?_
  refine K.iload d0_35 rfl ?_
  refine K.iconst (1 : Int32) d0_37 rfl ?_
  refine K.iadd d0_38 ?_
  refine K.iloadN d0_39 rfl ?_
  refine K.iconst (2 : Int32) d0_40 rfl ?_
  refine K.iushr d0_41 ?_
  refine K.iconst (3 : Int32) d0_42 rfl ?_
  refine K.iand d0_43 ?_
  refine K.callS [.int (o0 + (1 : Int32)), .int (((sh.toUInt32 >>> ((2 : Int32) &&& 31).toUInt32).toInt32) &&& (3 : Int32))] [] 0 0 0 d0_44 (wd3 hw) (wd4 hw) (wd5 hw) (wd6 hw) (by decide) (rmMN l Z a0 hw (o0 + (1 : Int32)) (((sh.toUInt32 >>> ((2 : Int32) &&& 31).toUInt32).toInt32) &&& (3 : Int32)) h n0) rfl (lenOf pd_5 rfl) rfl (Nat.le_of_eq rfl) (by decide) (by decide) rfl rfl (by decide) (by decide) (goP ?_)
  obtain ⟨o1, eo1, ho1a, ho1b, ho1c⟩ := own_om ((sh.toUInt32 >>> ((2 : Int32) &&& 31).toUInt32).toInt32) o0 ho0a ho0b
  rw [eo1]
  refine K.istore #[.val (.int sh), .val (.int ba), .val (.int fi), .val (.int qu), .val (.int cn), .val (.int (Int32.ofNat n)), .val (.int b), .val (.int st), .val (.int o0), .val (.int o1), .unset, .unset, .unset, .unset, .unset, .unset, .unset, .unset, .unset, .unset, .unset, .unset, .unset, .unset] d0_47 rfl ?_
  refine K.iload d0_49 rfl ?_
  refine K.iconst (1 : Int32) d0_51 rfl ?_
  refine K.iadd d0_52 ?_
  refine K.iloadN d0_53 rfl ?_
  refine K.iconst (4 : Int32) d0_54 rfl ?_
  refine K.iushr d0_55 ?_
  refine K.iconst (3 : Int32) d0_56 rfl ?_
  refine K.iand d0_57 ?_
  refine K.callS [.int (o1 + (1 : Int32)), .int (((sh.toUInt32 >>> ((4 : Int32) &&& 31).toUInt32).toInt32) &&& (3 : Int32))] [] 0 0 0 d0_58 (wd3 hw) (wd4 hw) (wd5 hw) (wd6 hw) (by decide) (rmMN l Z a0 hw (o1 + (1 : Int32)) (((sh.toUInt32 >>> ((4 : Int32) &&& 31).toUInt32).toInt32) &&& (3 : Int32)) h n0) rfl (lenOf pd_5 rfl) rfl (Nat.le_of_eq rfl) (by decide) (by decide) rfl rfl (by decide) (by decide) (goP ?_)
  obtain ⟨o2, eo2, ho2a, ho2b, ho2c⟩ := own_om ((sh.toUInt32 >>> ((4 : Int32) &&& 31).toUInt32).toInt32) o1 ho1a ho1b
  rw [eo2]
  refine K.istore #[.val (.int sh), .val (.int ba), .val (.int fi), .val (.int qu), .val (.int cn), .val (.int (Int32.ofNat n)), .val (.int b), .val (.int st), .val (.int o0), .val (.int o1), .val (.int o2), .unset, .unset, .unset, .unset, .unset, .unset, .unset, .unset, .unset, .unset, .unset, .unset, .unset] d0_61 rfl ?_
  refine K.iload d0_63 rfl ?_
  refine K.iconst (1 : Int32) d0_65 rfl ?_
  refine K.iadd d0_66 ?_
  refine K.iloadN d0_67 rfl ?_
  refine K.bipush (6 : Int32) d0_68 rfl ?_
  refine K.iushr d0_70 ?_
  refine K.iconst (3 : Int32) d0_71 rfl ?_
  refine K.iand d0_72 ?_
  refine K.callS [.int (o2 + (1 : Int32)), .int (((sh.toUInt32 >>> ((6 : Int32) &&& 31).toUInt32).toInt32) &&& (3 : Int32))] [] 0 0 0 d0_73 (wd3 hw) (wd4 hw) (wd5 hw) (wd6 hw) (by decide) (rmMN l Z a0 hw (o2 + (1 : Int32)) (((sh.toUInt32 >>> ((6 : Int32) &&& 31).toUInt32).toInt32) &&& (3 : Int32)) h n0) rfl (lenOf pd_5 rfl) rfl (Nat.le_of_eq rfl) (by decide) (by decide) rfl rfl (by decide) (by decide) (goP ?_)
  obtain ⟨o3, eo3, ho3a, ho3b, ho3c⟩ := own_om ((sh.toUInt32 >>> ((6 : Int32) &&& 31).toUInt32).toInt32) o2 ho2a ho2b
  rw [eo3]
  refine K.istore #[.val (.int sh), .val (.int ba), .val (.int fi), .val (.int qu), .val (.int cn), .val (.int (Int32.ofNat n)), .val (.int b), .val (.int st), .val (.int o0), .val (.int o1), .val (.int o2), .val (.int o3), .unset, .unset, .unset, .unset, .unset, .unset, .unset, .unset, .unset, .unset, .unset, .unset] d0_76 rfl ?_
  refine K.iload d0_78 rfl ?_
  refine K.iload d0_80 rfl ?_
  refine K.iadd d0_82 ?_
  obtain ⟨e0, ee0, he0⟩ := own_e1 hb1 hb2 ho0a ho0b
  rw [ee0]
  refine K.istore #[.val (.int sh), .val (.int ba), .val (.int fi), .val (.int qu), .val (.int cn), .val (.int (Int32.ofNat n)), .val (.int b), .val (.int st), .val (.int o0), .val (.int o1), .val (.int o2), .val (.int o3), .val (.int e0), .unset, .unset, .unset, .unset, .unset, .unset, .unset, .unset, .unset, .unset, .unset] d0_83 rfl ?_
  refine K.iload d0_85 rfl ?_
  refine K.iload d0_87 rfl ?_
  refine K.iadd d0_89 ?_
  obtain ⟨e1, ee1, he1⟩ := own_e1 hb1 hb2 ho1a ho1b
  rw [ee1]
  refine K.istore #[.val (.int sh), .val (.int ba), .val (.int fi), .val (.int qu), .val (.int cn), .val (.int (Int32.ofNat n)), .val (.int b), .val (.int st), .val (.int o0), .val (.int o1), .val (.int o2), .val (.int o3), .val (.int e0), .val (.int e1), .unset, .unset, .unset, .unset, .unset, .unset, .unset, .unset, .unset, .unset] d0_90 rfl ?_
  refine K.iload d0_92 rfl ?_
  refine K.iload d0_94 rfl ?_
  refine K.iadd d0_96 ?_
  obtain ⟨e2, ee2, he2⟩ := own_e1 hb1 hb2 ho2a ho2b
  rw [ee2]
  refine K.istore #[.val (.int sh), .val (.int ba), .val (.int fi), .val (.int qu), .val (.int cn), .val (.int (Int32.ofNat n)), .val (.int b), .val (.int st), .val (.int o0), .val (.int o1), .val (.int o2), .val (.int o3), .val (.int e0), .val (.int e1), .val (.int e2), .unset, .unset, .unset, .unset, .unset, .unset, .unset, .unset, .unset] d0_97 rfl ?_
  refine K.iload d0_99 rfl ?_
  refine K.iload d0_101 rfl ?_
  refine K.iadd d0_103 ?_
  obtain ⟨e3, ee3, he3⟩ := own_e1 hb1 hb2 ho3a ho3b
  rw [ee3]
  refine K.istore #[.val (.int sh), .val (.int ba), .val (.int fi), .val (.int qu), .val (.int cn), .val (.int (Int32.ofNat n)), .val (.int b), .val (.int st), .val (.int o0), .val (.int o1), .val (.int o2), .val (.int o3), .val (.int e0), .val (.int e1), .val (.int e2), .val (.int e3), .unset, .unset, .unset, .unset, .unset, .unset, .unset, .unset] d0_104 rfl ?_
  obtain ⟨e, h0_, h1_, h2_, h3_⟩ : ∃ e : Nat → Int32, e0 = e 0 ∧ e1 = e 1 ∧ e2 = e 2 ∧ e3 = e 3 := ⟨own_e e0 e1 e2 e3, rfl, rfl, rfl, rfl⟩
  subst h0_ h1_ h2_ h3_
  have he0a : 2 ≤ (e 0).toInt := by omega
  have he0b : (e 0).toInt ≤ b.toInt + 3 := by omega
  have he1a : 2 ≤ (e 1).toInt := by omega
  have he1b : (e 1).toInt ≤ b.toInt + 3 := by omega
  have he2a : 2 ≤ (e 2).toInt := by omega
  have he2b : (e 2).toInt ≤ b.toInt + 3 := by omega
  have he3a : 2 ≤ (e 3).toInt := by omega
  have he3b : (e 3).toInt ≤ b.toInt + 3 := by omega
  have he0c : (e 1).toInt ≤ (e 0).toInt + 1 := by omega
  have he1c : (e 2).toInt ≤ (e 1).toInt + 1 := by omega
  have he2c : (e 3).toInt ≤ (e 2).toInt + 1 := by omega
  have hmx := own_mx (e := e) (B := b.toInt + 3) (by omega) he0b he1b he2b he3b
  obtain ⟨lv, elv, hlv⟩ := own_e1 (o := 3) hb1 hb2 (by decide) (by decide)
  have hlv : lv.toInt = b.toInt + 3 := hlv
  have hlv1 : (lv + 1).toInt = lv.toInt + 1 := own_sumI (c := 1) (by omega) (by omega)
  clear ee0 ee1 ee2 ee3 eo0 eo1 eo2 eo3 he0 he1 he2 he3
  rcases (show n = 1 ∨ n = 2 ∨ n = 3 ∨ n = 4 by omega) with rfl | rfl | rfl | rfl
  · refine K.iload d0_106 rfl ?_
    refine K.istore #[.val (.int sh), .val (.int ba), .val (.int fi), .val (.int qu), .val (.int cn), .val (.int (Int32.ofNat 1)), .val (.int b), .val (.int st), .val (.int o0), .val (.int o1), .val (.int o2), .val (.int o3), .val (.int (e 0)), .val (.int (e 1)), .val (.int (e 2)), .val (.int (e 3)), .val (.int (e 0)), .unset, .unset, .unset, .unset, .unset, .unset, .unset] d0_108 rfl ?_
    refine K.iload d0_110 rfl ?_
    refine K.iconst (2 : Int32) d0_112 rfl ?_
    refine K.ic_lt d0_113 (fun _ => ?_) (fun u => absurd (by decide) u)
    refine K.iload d0_125 rfl ?_
    refine K.iconst (3 : Int32) d0_127 rfl ?_
    refine K.ic_lt d0_128 (fun _ => ?_) (fun u => absurd (by decide) u)
    refine K.iload d0_140 rfl ?_
    refine K.iconst (4 : Int32) d0_142 rfl ?_
    refine K.ic_lt d0_143 (fun _ => ?_) (fun u => absurd (by decide) u)
    refine K.iload d0_155 rfl ?_
    refine K.iconst (1 : Int32) d0_157 rfl ?_
    refine K.ic_ne d0_158 (fun _ => ?_) (fun u => absurd (by decide) u)
    refine K.iload d0_161 rfl ?_
    refine K.goto d0_163 ?_
    refine K.istore #[.val (.int sh), .val (.int ba), .val (.int fi), .val (.int qu), .val (.int cn), .val (.int (Int32.ofNat 1)), .val (.int b), .val (.int st), .val (.int o0), .val (.int o1), .val (.int o2), .val (.int o3), .val (.int (e 0)), .val (.int (e 1)), .val (.int (e 2)), .val (.int (e 3)), .val (.int (e 0)), .val (.int (e 0)), .unset, .unset, .unset, .unset, .unset, .unset] d0_190 rfl ?_
    refine K.iloadN d0_192 rfl ?_
    refine K.iload d0_193 rfl ?_
    have hl0 : 0 ≤ (e 0).toInt := (by omega)
    have hl1 : (e 0).toInt ≤ 2147483640 := (by omega)
    as_aux_lemma =>
      refine cut (P := ∀ dd : Int32, ¬ dd < e 0 → Wk E h 0 0 209 #[.val (.int sh), .val (.int ba), .val (.int fi), .val (.int qu), .val (.int cn), .val (.int (Int32.ofNat 1)), .val (.int b), .val (.int st), .val (.int o0), .val (.int o1), .val (.int o2), .val (.int o3), .val (.int (e 0)), .val (.int (e 1)), .val (.int (e 2)), .val (.int (e 3)), .val (.int (e 0)), .val (.int (e 0)), .unset, .unset, .unset, .unset, .unset, .unset] [.int dd]) (fun J10 => ?_) ?_
      · refine K.ic_ge d0_195 (fun hc11 => ?_) (fun hc11 => ?_)
        · refine K.iload d0_198 rfl ?_
          refine K.iloadN d0_200 rfl ?_
          refine K.bipush (7 : Int32) d0_201 rfl ?_
          refine K.iand d0_203 ?_
          refine K.iadd d0_204 ?_
          refine K.goto d0_205 ?_
          exact J10 _ (own_dd hl0 hl1)
        · refine K.iloadN d0_208 rfl ?_
          exact J10 _ hc11
      intro dd hdd
      refine K.istore #[.val (.int sh), .val (.int ba), .val (.int fi), .val (.int qu), .val (.int cn), .val (.int (Int32.ofNat 1)), .val (.int b), .val (.int st), .val (.int o0), .val (.int o1), .val (.int o2), .val (.int o3), .val (.int (e 0)), .val (.int (e 1)), .val (.int (e 2)), .val (.int (e 3)), .val (.int (e 0)), .val (.int (e 0)), .val (.int dd), .unset, .unset, .unset, .unset, .unset] d0_209 rfl ?_
      refine K.iload d0_211 rfl ?_
      refine K.iconst (3 : Int32) d0_213 rfl ?_
      refine K.iadd d0_214 ?_
      rw [elv]
      as_aux_lemma =>
        refine K.istore #[.val (.int sh), .val (.int ba), .val (.int fi), .val (.int qu), .val (.int cn), .val (.int (Int32.ofNat 1)), .val (.int b), .val (.int st), .val (.int o0), .val (.int o1), .val (.int o2), .val (.int o3), .val (.int (e 0)), .val (.int (e 1)), .val (.int (e 2)), .val (.int (e 3)), .val (.int (e 0)), .val (.int (e 0)), .val (.int dd), .val (.int lv), .unset, .unset, .unset, .unset] d0_215 rfl ?_
        refine K.newO 1 8 d0_217 (wd7 hw) (wd8 hw) (wd9 hw) rfl rfl (by decide) (by decide) (fun h12 be ha13 g14 X15 A16 D17 => ?_)
        have lt_ek_be : ek < be := by rw [ha13]; exact E8.lt
        have lt_kd_be : kd < be := by rw [ha13]; exact I7.lt
        have S18 := S1.ext X15
        have S19 := S2.ext X15
        have S20 := S3.ext X15
        have S21 := S4.ext X15
        have S22 := S5.ext X15
        have S23 := S6.ext X15
        have I24 := I7.ext X15
        have E25 := E8.ext X15
        have F26 := F9.ext X15
        have F27 : Fld Z h12 be "com/example/horatius/horatius/core/PageSummary" "nodes" "I" (.int (0 : Int32)) := D17 (Or.inl (wd21 hw)) (ty := .int) (by decide)
        have F28 : Fld Z h12 be "com/example/horatius/horatius/core/PageSummary" "leastDepth" "I" (.int (0 : Int32)) := D17 (Or.inl (wd23 hw)) (ty := .int) (by decide)
        have F29 : Fld Z h12 be "com/example/horatius/horatius/core/PageSummary" "lastKind" "Lcom/example/horatius/horatius/core/NodeKind;" .null := D17 (Or.inl (wd31 hw)) (ty := (.object "com/example/horatius/horatius/core/NodeKind")) (by decide)
        have F30 : Fld Z h12 be "com/example/horatius/horatius/core/PageSummary" "lastDepth" "I" (.int (0 : Int32)) := D17 (Or.inl (wd33 hw)) (ty := .int) (by decide)
        have F31 : Fld Z h12 be "com/example/horatius/horatius/core/PageSummary" "topElements" "I" (.int (0 : Int32)) := D17 (Or.inl (wd35 hw)) (ty := .int) (by decide)
        have F32 : Fld Z h12 be "com/example/horatius/horatius/core/PageSummary" "typedAttributes" "I" (.int (0 : Int32)) := D17 (Or.inl (wd37 hw)) (ty := .int) (by decide)
        have F33 : Fld Z h12 be "com/example/horatius/horatius/core/PageSummary" "asides" "[I" .null := D17 (Or.inl (wd48 hw)) (ty := (.array .int)) (by decide)
        have F34 : Fld Z h12 be "com/example/horatius/horatius/core/PageSummary" "asideCount" "I" (.int (0 : Int32)) := D17 (Or.inl (wd50 hw)) (ty := .int) (by decide)
        refine K.dup d0_220 rfl ?_
        refine K.iconst (1 : Int32) d0_221 rfl ?_
        refine K.iload d0_222 rfl ?_
        refine K.getS d0_224 (wd10 hw) S18 ?_
        refine K.iload d0_227 rfl ?_
        refine K.iconst (0 : Int32) d0_229 rfl ?_
        refine K.iconst (0 : Int32) d0_230 rfl ?_
        refine K.iconst (0 : Int32) d0_231 rfl ?_
        refine K.newPX 0 2 8 d0_232 (wd13 hw) (by decide) (by decide) (by decide) rfl rfl (by decide) (by decide) (fun h36 a35 ha37 g38 X39 A40 E41 => ?_)
        have lt_be_a35 : be < a35 := by rw [ha37]; exact A16.lt
        have lt_ek_a35 : ek < a35 := by rw [ha37]; exact E25.lt
        have lt_kd_a35 : kd < a35 := by rw [ha37]; exact I24.lt
        have S42 := S18.ext X39
        have S43 := S19.ext X39
        have S44 := S20.ext X39
        have S45 := S21.ext X39
        have S46 := S22.ext X39
        have S47 := S23.ext X39
        have I48 := I24.ext X39
        have E49 := E25.ext X39
        have F50 := F26.ext X39
        have E51 := A16.ext X39
        have F52 := F27.ext X39
        have F53 := F28.ext X39
        have F54 := F29.ext X39
        have F55 := F30.ext X39
        have F56 := F31.ext X39
        have F57 := F32.ext X39
        have F58 := F33.ext X39
        have F59 := F34.ext X39
        refine K.callI (a := be) [.int (1 : Int32), .int lv, .ref ek, .int lv, .int (0 : Int32), .int (0 : Int32), .ref a35] [.ref be] 1 3 8 d0_234 rfl rfl (wd14 hw) (wd15 hw) (wd9 hw) (wd16 hw) (by decide) (rmSI l Z a0 hw be a35 ek (1 : Int32) lv lv h36 n0 E51 g14 F52 F53 F54 F55 F56 F57 F58 F59 A40 E41 E49 (Nat.ne_of_gt lt_be_a35) (by decide) (own_nn0 (by omega)) (own_irr _)) rfl (lenOf pd_22 rfl) rfl (Nat.le_of_eq rfl) (by decide) (by decide) rfl rfl (by decide) (by decide) (goU fun h60 q61 => ?_)
        obtain ⟨c62, g63, e64, K65, G66, A67⟩ := q61
        have lt_a35_c62 : a35 < c62 := Nat.lt_of_lt_of_le A40.lt g63
        have lt_be_c62 : be < c62 := Nat.lt_of_lt_of_le E51.lt g63
        have lt_ek_c62 : ek < c62 := Nat.lt_of_lt_of_le E49.lt g63
        have lt_kd_c62 : kd < c62 := Nat.lt_of_lt_of_le I48.lt g63
        have S68 := staK S42 K65 (allS (plE E51) all0)
        have S69 := staK S43 K65 (allS (plE E51) all0)
        have S70 := staK S44 K65 (allS (plE E51) all0)
        have S71 := staK S45 K65 (allS (plE E51) all0)
        have S72 := staK S46 K65 (allS (plE E51) all0)
        have S73 := staK S47 K65 (allS (plE E51) all0)
        have I74 := I48.keep K65 (ninS (Nat.ne_of_lt lt_kd_be) nin0)
        have E75 := E49.keep K65
        have F76 := F50.keep K65 (ninS (Nat.ne_of_lt lt_ek_be) nin0)
        have E77 := E51.keep K65
        have I78 := A40.keep K65 (ninS (Nat.ne_of_gt lt_be_a35) nin0)
        have E79 := E41.keep K65
        obtain ⟨F80, F81, F82, F83, F84, F85, F86, F87⟩ := G66
        refine K.astore #[.val (.int sh), .val (.int ba), .val (.int fi), .val (.int qu), .val (.int cn), .val (.int (Int32.ofNat 1)), .val (.int b), .val (.int st), .val (.int o0), .val (.int o1), .val (.int o2), .val (.int o3), .val (.int (e 0)), .val (.int (e 1)), .val (.int (e 2)), .val (.int (e 3)), .val (.int (e 0)), .val (.int (e 0)), .val (.int dd), .val (.int lv), .val (.ref be), .unset, .unset, .unset] d0_237 rfl rfl ?_
        as_aux_lemma =>
          refine K.newO 4 16 d0_239 (wd7 hw) (wd8 hw) (wd9 hw) rfl rfl (by decide) (by decide) (fun h88 su ha89 g90 X91 A92 D93 => ?_)
          have lt_a35_su : a35 < su := by rw [ha89]; exact I78.lt
          have lt_be_su : be < su := by rw [ha89]; exact E77.lt
          have lt_c62_su : c62 < su := by rw [ha89]; exact A67.lt
          have lt_ek_su : ek < su := by rw [ha89]; exact E75.lt
          have lt_kd_su : kd < su := by rw [ha89]; exact I74.lt
          have S94 := S68.ext X91
          have S95 := S69.ext X91
          have S96 := S70.ext X91
          have S97 := S71.ext X91
          have S98 := S72.ext X91
          have S99 := S73.ext X91
          have I100 := I74.ext X91
          have E101 := E75.ext X91
          have F102 := F76.ext X91
          have E103 := E77.ext X91
          have I104 := I78.ext X91
          have E105 := E79.ext X91
          have F106 := F80.ext X91
          have F107 := F81.ext X91
          have F108 := F82.ext X91
          have F109 := F83.ext X91
          have F110 := F84.ext X91
          have F111 := F85.ext X91
          have F112 := F86.ext X91
          have F113 := F87.ext X91
          have I114 := A67.ext X91
          have F115 : Fld Z h88 su "com/example/horatius/horatius/core/PageSummary" "nodes" "I" (.int (0 : Int32)) := D93 (Or.inl (wd21 hw)) (ty := .int) (by decide)
          have F116 : Fld Z h88 su "com/example/horatius/horatius/core/PageSummary" "leastDepth" "I" (.int (0 : Int32)) := D93 (Or.inl (wd23 hw)) (ty := .int) (by decide)
          have F117 : Fld Z h88 su "com/example/horatius/horatius/core/PageSummary" "lastKind" "Lcom/example/horatius/horatius/core/NodeKind;" .null := D93 (Or.inl (wd31 hw)) (ty := (.object "com/example/horatius/horatius/core/NodeKind")) (by decide)
          have F118 : Fld Z h88 su "com/example/horatius/horatius/core/PageSummary" "lastDepth" "I" (.int (0 : Int32)) := D93 (Or.inl (wd33 hw)) (ty := .int) (by decide)
          have F119 : Fld Z h88 su "com/example/horatius/horatius/core/PageSummary" "topElements" "I" (.int (0 : Int32)) := D93 (Or.inl (wd35 hw)) (ty := .int) (by decide)
          have F120 : Fld Z h88 su "com/example/horatius/horatius/core/PageSummary" "typedAttributes" "I" (.int (0 : Int32)) := D93 (Or.inl (wd37 hw)) (ty := .int) (by decide)
          have F121 : Fld Z h88 su "com/example/horatius/horatius/core/PageSummary" "asides" "[I" .null := D93 (Or.inl (wd48 hw)) (ty := (.array .int)) (by decide)
          have F122 : Fld Z h88 su "com/example/horatius/horatius/core/PageSummary" "asideCount" "I" (.int (0 : Int32)) := D93 (Or.inl (wd50 hw)) (ty := .int) (by decide)
          refine K.dup d0_242 rfl ?_
          refine K.iload d0_243 rfl ?_
          refine K.iload d0_245 rfl ?_
          refine K.getS d0_247 (wd10 hw) S94 ?_
          refine K.iload d0_250 rfl ?_
          refine K.iconst (0 : Int32) d0_252 rfl ?_
          refine K.iconst (0 : Int32) d0_253 rfl ?_
          refine K.iconst (0 : Int32) d0_254 rfl ?_
          refine K.newPX 0 5 16 d0_255 (wd13 hw) (by decide) (by decide) (by decide) rfl rfl (by decide) (by decide) (fun h124 a123 ha125 g126 X127 A128 E129 => ?_)
          have lt_a35_a123 : a35 < a123 := by rw [ha125]; exact I104.lt
          have lt_be_a123 : be < a123 := by rw [ha125]; exact E103.lt
          have lt_c62_a123 : c62 < a123 := by rw [ha125]; exact I114.lt
          have lt_ek_a123 : ek < a123 := by rw [ha125]; exact E101.lt
          have lt_kd_a123 : kd < a123 := by rw [ha125]; exact I100.lt
          have lt_su_a123 : su < a123 := by rw [ha125]; exact A92.lt
          have S130 := S94.ext X127
          have S131 := S95.ext X127
          have S132 := S96.ext X127
          have S133 := S97.ext X127
          have S134 := S98.ext X127
          have S135 := S99.ext X127
          have I136 := I100.ext X127
          have E137 := E101.ext X127
          have F138 := F102.ext X127
          have E139 := E103.ext X127
          have I140 := I104.ext X127
          have E141 := E105.ext X127
          have F142 := F106.ext X127
          have F143 := F107.ext X127
          have F144 := F108.ext X127
          have F145 := F109.ext X127
          have F146 := F110.ext X127
          have F147 := F111.ext X127
          have F148 := F112.ext X127
          have F149 := F113.ext X127
          have I150 := I114.ext X127
          have E151 := A92.ext X127
          have F152 := F115.ext X127
          have F153 := F116.ext X127
          have F154 := F117.ext X127
          have F155 := F118.ext X127
          have F156 := F119.ext X127
          have F157 := F120.ext X127
          have F158 := F121.ext X127
          have F159 := F122.ext X127
          refine K.callI (a := su) [.int (Int32.ofNat 1), .int (e 0), .ref ek, .int (e 0), .int (0 : Int32), .int (0 : Int32), .ref a123] [.ref su] 1 6 16 d0_257 rfl rfl (wd14 hw) (wd15 hw) (wd9 hw) (wd16 hw) (by decide) (rmSI l Z a0 hw su a123 ek (Int32.ofNat 1) (e 0) (e 0) h124 n0 E151 g90 F152 F153 F154 F155 F156 F157 F158 F159 A128 E129 E137 (Nat.ne_of_gt lt_su_a123) (by decide) (own_nn0 hl0) (own_irr _)) rfl (lenOf pd_22 rfl) rfl (Nat.le_of_eq rfl) (by decide) (by decide) rfl rfl (by decide) (by decide) (goU fun h160 q161 => ?_)
          obtain ⟨sa, g162, e163, K164, G165, A166⟩ := q161
          have lt_a123_sa : a123 < sa := Nat.lt_of_lt_of_le A128.lt g162
          have lt_a35_sa : a35 < sa := Nat.lt_of_lt_of_le I140.lt g162
          have lt_be_sa : be < sa := Nat.lt_of_lt_of_le E139.lt g162
          have lt_c62_sa : c62 < sa := Nat.lt_of_lt_of_le I150.lt g162
          have lt_ek_sa : ek < sa := Nat.lt_of_lt_of_le E137.lt g162
          have lt_kd_sa : kd < sa := Nat.lt_of_lt_of_le I136.lt g162
          have lt_su_sa : su < sa := Nat.lt_of_lt_of_le E151.lt g162
          have S167 := staK S130 K164 (allS (plE E151) all0)
          have S168 := staK S131 K164 (allS (plE E151) all0)
          have S169 := staK S132 K164 (allS (plE E151) all0)
          have S170 := staK S133 K164 (allS (plE E151) all0)
          have S171 := staK S134 K164 (allS (plE E151) all0)
          have S172 := staK S135 K164 (allS (plE E151) all0)
          have I173 := I136.keep K164 (ninS (Nat.ne_of_lt lt_kd_su) nin0)
          have E174 := E137.keep K164
          have F175 := F138.keep K164 (ninS (Nat.ne_of_lt lt_ek_su) nin0)
          have E176 := E139.keep K164
          have I177 := I140.keep K164 (ninS (Nat.ne_of_lt lt_a35_su) nin0)
          have E178 := E141.keep K164
          have F179 := F142.keep K164 (ninS (Nat.ne_of_lt lt_be_su) nin0)
          have F180 := F143.keep K164 (ninS (Nat.ne_of_lt lt_be_su) nin0)
          have F181 := F144.keep K164 (ninS (Nat.ne_of_lt lt_be_su) nin0)
          have F182 := F145.keep K164 (ninS (Nat.ne_of_lt lt_be_su) nin0)
          have F183 := F146.keep K164 (ninS (Nat.ne_of_lt lt_be_su) nin0)
          have F184 := F147.keep K164 (ninS (Nat.ne_of_lt lt_be_su) nin0)
          have F185 := F148.keep K164 (ninS (Nat.ne_of_lt lt_be_su) nin0)
          have F186 := F149.keep K164 (ninS (Nat.ne_of_lt lt_be_su) nin0)
          have I187 := I150.keep K164 (ninS (Nat.ne_of_lt lt_c62_su) nin0)
          have E188 := E151.keep K164
          have I189 := A128.keep K164 (ninS (Nat.ne_of_gt lt_su_a123) nin0)
          have E190 := E129.keep K164
          obtain ⟨F191, F192, F193, F194, F195, F196, F197, F198⟩ := G165
          refine K.astore #[.val (.int sh), .val (.int ba), .val (.int fi), .val (.int qu), .val (.int cn), .val (.int (Int32.ofNat 1)), .val (.int b), .val (.int st), .val (.int o0), .val (.int o1), .val (.int o2), .val (.int o3), .val (.int (e 0)), .val (.int (e 1)), .val (.int (e 2)), .val (.int (e 3)), .val (.int (e 0)), .val (.int (e 0)), .val (.int dd), .val (.int lv), .val (.ref be), .val (.ref su), .unset, .unset] d0_260 rfl rfl ?_
          refine K.newO 7 35 d0_262 (wd51 hw) (wd52 hw) (wd53 hw) rfl rfl (by decide) (by decide) (fun h199 pg ha200 g201 X202 A203 D204 => ?_)
          have lt_a123_pg : a123 < pg := by rw [ha200]; exact I189.lt
          have lt_a35_pg : a35 < pg := by rw [ha200]; exact I177.lt
          have lt_be_pg : be < pg := by rw [ha200]; exact E176.lt
          have lt_c62_pg : c62 < pg := by rw [ha200]; exact I187.lt
          have lt_ek_pg : ek < pg := by rw [ha200]; exact E174.lt
          have lt_kd_pg : kd < pg := by rw [ha200]; exact I173.lt
          have lt_sa_pg : sa < pg := by rw [ha200]; exact A166.lt
          have lt_su_pg : su < pg := by rw [ha200]; exact E188.lt
          have S205 := S167.ext X202
          have S206 := S168.ext X202
          have S207 := S169.ext X202
          have S208 := S170.ext X202
          have S209 := S171.ext X202
          have S210 := S172.ext X202
          have I211 := I173.ext X202
          have E212 := E174.ext X202
          have F213 := F175.ext X202
          have E214 := E176.ext X202
          have I215 := I177.ext X202
          have E216 := E178.ext X202
          have F217 := F179.ext X202
          have F218 := F180.ext X202
          have F219 := F181.ext X202
          have F220 := F182.ext X202
          have F221 := F183.ext X202
          have F222 := F184.ext X202
          have F223 := F185.ext X202
          have F224 := F186.ext X202
          have I225 := I187.ext X202
          have E226 := E188.ext X202
          have I227 := I189.ext X202
          have E228 := E190.ext X202
          have F229 := F191.ext X202
          have F230 := F192.ext X202
          have F231 := F193.ext X202
          have F232 := F194.ext X202
          have F233 := F195.ext X202
          have F234 := F196.ext X202
          have F235 := F197.ext X202
          have F236 := F198.ext X202
          have I237 := A166.ext X202
          have F238 : Fld Z h199 pg "com/example/horatius/horatius/core/OutlinePage" "gathered" "Lcom/example/horatius/horatius/core/PageSummary;" .null := D204 (Or.inr (wd63 hw)) (ty := (.object "com/example/horatius/horatius/core/PageSummary")) (by decide)
          have F239 : Fld Z h199 pg "com/example/horatius/horatius/core/OutlinePage" "open" "[I" .null := D204 (Or.inl (wd65 hw)) (ty := (.array .int)) (by decide)
          have F240 : Fld Z h199 pg "com/example/horatius/horatius/core/OutlinePage" "index" "I" (.int (0 : Int32)) := D204 (Or.inr (wd67 hw)) (ty := .int) (by decide)
          have F241 : Fld Z h199 pg "com/example/horatius/horatius/core/OutlinePage" "start" "I" (.int (0 : Int32)) := D204 (Or.inr (wd69 hw)) (ty := .int) (by decide)
          have F242 : Fld Z h199 pg "com/example/horatius/horatius/core/OutlinePage" "summary" "Lcom/example/horatius/horatius/core/PageSummary;" .null := D204 (Or.inr (wd71 hw)) (ty := (.object "com/example/horatius/horatius/core/PageSummary")) (by decide)
          have F243 : Fld Z h199 pg "com/example/horatius/horatius/core/OutlinePage" "nameCount" "I" (.int (0 : Int32)) := D204 (Or.inr (wd73 hw)) (ty := .int) (by decide)
          have F244 : Fld Z h199 pg "com/example/horatius/horatius/core/OutlinePage" "previousKind" "Lcom/example/horatius/horatius/core/NodeKind;" .null := D204 (Or.inl (wd80 hw)) (ty := (.object "com/example/horatius/horatius/core/NodeKind")) (by decide)
          have F245 : Fld Z h199 pg "com/example/horatius/horatius/core/OutlinePage" "previousDepth" "I" (.int (0 : Int32)) := D204 (Or.inl (wd87 hw)) (ty := .int) (by decide)
          have F246 : Fld Z h199 pg "com/example/horatius/horatius/core/OutlinePage" "openBefore" "I" (.int (0 : Int32)) := D204 (Or.inl (wd90 hw)) (ty := .int) (by decide)
          have F247 : Fld Z h199 pg "com/example/horatius/horatius/core/OutlinePage" "kinds" "[B" .null := D204 (Or.inr (wd98 hw)) (ty := (.array .byte)) (by decide)
          have F248 : Fld Z h199 pg "com/example/horatius/horatius/core/OutlinePage" "names" "[I" .null := D204 (Or.inr (wd100 hw)) (ty := (.array .int)) (by decide)
          have F249 : Fld Z h199 pg "com/example/horatius/horatius/core/OutlinePage" "depths" "[I" .null := D204 (Or.inr (wd102 hw)) (ty := (.array .int)) (by decide)
          have F250 : Fld Z h199 pg "com/example/horatius/horatius/core/OutlinePage" "parents" "[I" .null := D204 (Or.inr (wd104 hw)) (ty := (.array .int)) (by decide)
          have F251 : Fld Z h199 pg "com/example/horatius/horatius/core/OutlinePage" "subtreeEnds" "[I" .null := D204 (Or.inr (wd106 hw)) (ty := (.array .int)) (by decide)
          have F252 : Fld Z h199 pg "com/example/horatius/horatius/core/OutlinePage" "size" "I" (.int (0 : Int32)) := D204 (Or.inl (wd121 hw)) (ty := .int) (by decide)
          have F253 : Fld Z h199 pg "com/example/horatius/horatius/core/OutlinePage" "openCount" "I" (.int (0 : Int32)) := D204 (Or.inl (wd123 hw)) (ty := .int) (by decide)
          have F254 : Fld Z h199 pg "com/example/horatius/horatius/core/OutlinePage" "ended" "Z" (.int (0 : Int32)) := D204 (Or.inl (wd142 hw)) (ty := .boolean) (by decide)
          have F255 : Fld Z h199 pg "com/example/horatius/horatius/core/OutlinePage" "shallowestFromStart" "[I" .null := D204 (Or.inl (wd208 hw)) (ty := (.array .int)) (by decide)
          have F256 : Fld Z h199 pg "com/example/horatius/horatius/core/OutlinePage" "shallowestToEnd" "[I" .null := D204 (Or.inl (wd210 hw)) (ty := (.array .int)) (by decide)
          as_aux_lemma =>
            refine K.dup d0_265 rfl ?_
            refine K.iconst (1 : Int32) d0_266 rfl ?_
            refine K.iload d0_267 rfl ?_
            refine K.aload d0_269 rfl rfl ?_
            refine K.aload d0_271 rfl rfl ?_
            refine K.iconst (1 : Int32) d0_273 rfl ?_
            refine K.callI (a := pg) [.int (1 : Int32), .int st, .ref su, .ref be, .int (1 : Int32)] [.ref pg] 1 15 79 d0_274 rfl rfl (wd54 hw) (wd55 hw) (wd53 hw) (wd56 hw) (by decide) (rmOI l Z a0 hw pg su be ek st lv 1 h199 n0 A203 g201 F241 F242 F243 F247 F248 F249 F250 F251 F238 F252 F244 F245 F246 F239 F253 F255 F256 F254 F240 E226 E214 F229 F219 F220 S205 (Nat.ne_of_lt lt_su_pg) (Nat.ne_of_lt lt_be_pg) (by decide)) rfl (lenOf pd_23 rfl) rfl (Nat.le_of_eq rfl) (by decide) (by decide) rfl rfl (by decide) (by decide) (goU fun h257 q258 => ?_)
            obtain ⟨ki, na, de, pa, sb, ga, ag, op, ⟨ch_pg_ga, ch_ga_ag, ch_ag_op, ch_op_ki, ch_ki_na, ch_na_de, ch_de_pa, ch_pa_sb⟩, K259, E260, P261, G262, A263, A264, A265, A266, A267, A268, A269⟩ := q258
            have S270 := staK S205 K259 (allS (plE A203) all0)
            have S271 := staK S206 K259 (allS (plE A203) all0)
            have S272 := staK S207 K259 (allS (plE A203) all0)
            have S273 := staK S208 K259 (allS (plE A203) all0)
            have S274 := staK S209 K259 (allS (plE A203) all0)
            have S275 := staK S210 K259 (allS (plE A203) all0)
            have I276 := I211.keep K259 (ninS (Nat.ne_of_lt lt_kd_pg) nin0)
            have E277 := E212.keep K259
            have F278 := F213.keep K259 (ninS (Nat.ne_of_lt lt_ek_pg) nin0)
            have E279 := E214.keep K259
            have I280 := I215.keep K259 (ninS (Nat.ne_of_lt lt_a35_pg) nin0)
            have E281 := E216.keep K259
            have F282 := F217.keep K259 (ninS (Nat.ne_of_lt lt_be_pg) nin0)
            have F283 := F218.keep K259 (ninS (Nat.ne_of_lt lt_be_pg) nin0)
            have F284 := F219.keep K259 (ninS (Nat.ne_of_lt lt_be_pg) nin0)
            have F285 := F220.keep K259 (ninS (Nat.ne_of_lt lt_be_pg) nin0)
            have F286 := F221.keep K259 (ninS (Nat.ne_of_lt lt_be_pg) nin0)
            have F287 := F222.keep K259 (ninS (Nat.ne_of_lt lt_be_pg) nin0)
            have F288 := F223.keep K259 (ninS (Nat.ne_of_lt lt_be_pg) nin0)
            have F289 := F224.keep K259 (ninS (Nat.ne_of_lt lt_be_pg) nin0)
            have I290 := I225.keep K259 (ninS (Nat.ne_of_lt lt_c62_pg) nin0)
            have E291 := E226.keep K259
            have I292 := I227.keep K259 (ninS (Nat.ne_of_lt lt_a123_pg) nin0)
            have E293 := E228.keep K259
            have F294 := F229.keep K259 (ninS (Nat.ne_of_lt lt_su_pg) nin0)
            have F295 := F230.keep K259 (ninS (Nat.ne_of_lt lt_su_pg) nin0)
            have F296 := F231.keep K259 (ninS (Nat.ne_of_lt lt_su_pg) nin0)
            have F297 := F232.keep K259 (ninS (Nat.ne_of_lt lt_su_pg) nin0)
            have F298 := F233.keep K259 (ninS (Nat.ne_of_lt lt_su_pg) nin0)
            have F299 := F234.keep K259 (ninS (Nat.ne_of_lt lt_su_pg) nin0)
            have F300 := F235.keep K259 (ninS (Nat.ne_of_lt lt_su_pg) nin0)
            have F301 := F236.keep K259 (ninS (Nat.ne_of_lt lt_su_pg) nin0)
            have I302 := I237.keep K259 (ninS (Nat.ne_of_lt lt_sa_pg) nin0)
            have E303 := A203.keep K259
            have PO : Od ek kd su sa pg ga ag op ki na de pa sb := ⟨⟨lt_ek_pg, lt_kd_pg, lt_su_pg, lt_sa_pg⟩, ch_pg_ga, ch_ga_ag, ch_ag_op, ch_op_ki, ch_ki_na, ch_na_de, ch_de_pa, ch_pa_sb⟩
            have gpg := g201
            obtain ⟨⟨od_ek_pg, od_kd_pg, od_su_pg, od_sa_pg⟩, od_pg_ga, od_ga_ag, od_ag_op, od_op_ki, od_ki_na, od_na_de, od_de_pa, od_pa_sb⟩ := id PO
            have od_pg_ag := Nat.lt_trans od_pg_ga od_ga_ag
            have od_pg_op := Nat.lt_trans od_pg_ag od_ag_op
            have od_pg_ki := Nat.lt_trans od_pg_op od_op_ki
            have od_pg_na := Nat.lt_trans od_pg_ki od_ki_na
            have od_pg_de := Nat.lt_trans od_pg_na od_na_de
            have od_pg_pa := Nat.lt_trans od_pg_de od_de_pa
            have od_pg_sb := Nat.lt_trans od_pg_pa od_pa_sb
            have od_ga_op := Nat.lt_trans od_ga_ag od_ag_op
            have od_ga_ki := Nat.lt_trans od_ga_op od_op_ki
            have od_ga_na := Nat.lt_trans od_ga_ki od_ki_na
            have od_ga_de := Nat.lt_trans od_ga_na od_na_de
            have od_ga_pa := Nat.lt_trans od_ga_de od_de_pa
            have od_ga_sb := Nat.lt_trans od_ga_pa od_pa_sb
            have od_ag_ki := Nat.lt_trans od_ag_op od_op_ki
            have od_ag_na := Nat.lt_trans od_ag_ki od_ki_na
            have od_ag_de := Nat.lt_trans od_ag_na od_na_de
            have od_ag_pa := Nat.lt_trans od_ag_de od_de_pa
            have od_ag_sb := Nat.lt_trans od_ag_pa od_pa_sb
            have od_op_na := Nat.lt_trans od_op_ki od_ki_na
            have od_op_de := Nat.lt_trans od_op_na od_na_de
            have od_op_pa := Nat.lt_trans od_op_de od_de_pa
            have od_op_sb := Nat.lt_trans od_op_pa od_pa_sb
            have od_ki_de := Nat.lt_trans od_ki_na od_na_de
            have od_ki_pa := Nat.lt_trans od_ki_de od_de_pa
            have od_ki_sb := Nat.lt_trans od_ki_pa od_pa_sb
            have od_na_pa := Nat.lt_trans od_na_de od_de_pa
            have od_na_sb := Nat.lt_trans od_na_pa od_pa_sb
            have od_de_sb := Nat.lt_trans od_de_pa od_pa_sb
            have od_ek_ga := Nat.lt_trans od_ek_pg od_pg_ga
            have od_ek_ag := Nat.lt_trans od_ek_pg od_pg_ag
            have od_ek_op := Nat.lt_trans od_ek_pg od_pg_op
            have od_ek_ki := Nat.lt_trans od_ek_pg od_pg_ki
            have od_ek_na := Nat.lt_trans od_ek_pg od_pg_na
            have od_ek_de := Nat.lt_trans od_ek_pg od_pg_de
            have od_ek_pa := Nat.lt_trans od_ek_pg od_pg_pa
            have od_ek_sb := Nat.lt_trans od_ek_pg od_pg_sb
            have od_kd_ga := Nat.lt_trans od_kd_pg od_pg_ga
            have od_kd_ag := Nat.lt_trans od_kd_pg od_pg_ag
            have od_kd_op := Nat.lt_trans od_kd_pg od_pg_op
            have od_kd_ki := Nat.lt_trans od_kd_pg od_pg_ki
            have od_kd_na := Nat.lt_trans od_kd_pg od_pg_na
            have od_kd_de := Nat.lt_trans od_kd_pg od_pg_de
            have od_kd_pa := Nat.lt_trans od_kd_pg od_pg_pa
            have od_kd_sb := Nat.lt_trans od_kd_pg od_pg_sb
            have od_su_ga := Nat.lt_trans od_su_pg od_pg_ga
            have od_su_ag := Nat.lt_trans od_su_pg od_pg_ag
            have od_su_op := Nat.lt_trans od_su_pg od_pg_op
            have od_su_ki := Nat.lt_trans od_su_pg od_pg_ki
            have od_su_na := Nat.lt_trans od_su_pg od_pg_na
            have od_su_de := Nat.lt_trans od_su_pg od_pg_de
            have od_su_pa := Nat.lt_trans od_su_pg od_pg_pa
            have od_su_sb := Nat.lt_trans od_su_pg od_pg_sb
            have od_sa_ga := Nat.lt_trans od_sa_pg od_pg_ga
            have od_sa_ag := Nat.lt_trans od_sa_pg od_pg_ag
            have od_sa_op := Nat.lt_trans od_sa_pg od_pg_op
            have od_sa_ki := Nat.lt_trans od_sa_pg od_pg_ki
            have od_sa_na := Nat.lt_trans od_sa_pg od_pg_na
            have od_sa_de := Nat.lt_trans od_sa_pg od_pg_de
            have od_sa_pa := Nat.lt_trans od_sa_pg od_pg_pa
            have od_sa_sb := Nat.lt_trans od_sa_pg od_pg_sb
            have ge_ga := Nat.le_trans gpg (Nat.le_of_lt od_pg_ga)
            have ge_ag := Nat.le_trans gpg (Nat.le_of_lt od_pg_ag)
            have ge_op := Nat.le_trans gpg (Nat.le_of_lt od_pg_op)
            have ge_ki := Nat.le_trans gpg (Nat.le_of_lt od_pg_ki)
            have ge_na := Nat.le_trans gpg (Nat.le_of_lt od_pg_na)
            have ge_de := Nat.le_trans gpg (Nat.le_of_lt od_pg_de)
            have ge_pa := Nat.le_trans gpg (Nat.le_of_lt od_pg_pa)
            have ge_sb := Nat.le_trans gpg (Nat.le_of_lt od_pg_sb)
            obtain ⟨F304, F305, F306, F307, F308, F309, F310, F311, F312, F313, F314, F315, F316, F317, F318, F319, F320, F321⟩ := P261
            obtain ⟨F322, F323, F324, F325, F326, F327, F328, F329⟩ := G262
            have A330 := A267.congr (own_dzero e _)
            refine K.astore #[.val (.int sh), .val (.int ba), .val (.int fi), .val (.int qu), .val (.int cn), .val (.int (Int32.ofNat 1)), .val (.int b), .val (.int st), .val (.int o0), .val (.int o1), .val (.int o2), .val (.int o3), .val (.int (e 0)), .val (.int (e 1)), .val (.int (e 2)), .val (.int (e 3)), .val (.int (e 0)), .val (.int (e 0)), .val (.int dd), .val (.int lv), .val (.ref be), .val (.ref su), .val (.ref pg), .unset] d0_277 rfl rfl ?_
            refine K.aload d0_279 rfl rfl ?_
            refine K.iload d0_281 rfl ?_
            refine K.iconst (0 : Int32) d0_283 rfl ?_
            refine K.iloadN d0_284 rfl ?_
            refine K.bipush (8 : Int32) d0_285 rfl ?_
            refine K.iushr d0_287 ?_
            refine K.iconst (1 : Int32) d0_288 rfl ?_
            refine K.iand d0_289 ?_
            refine cut (P := ∀ z331 : Int32, z331 = (if (((sh.toUInt32 >>> ((8 : Int32) &&& 31).toUInt32).toInt32) &&& (1 : Int32)) = 0 then 0 else 1) → Wk E h257 15 79 298 #[.val (.int sh), .val (.int ba), .val (.int fi), .val (.int qu), .val (.int cn), .val (.int (Int32.ofNat 1)), .val (.int b), .val (.int st), .val (.int o0), .val (.int o1), .val (.int o2), .val (.int o3), .val (.int (e 0)), .val (.int (e 1)), .val (.int (e 2)), .val (.int (e 3)), .val (.int (e 0)), .val (.int (e 0)), .val (.int dd), .val (.int lv), .val (.ref be), .val (.ref su), .val (.ref pg), .unset] [.int z331, .int (0 : Int32), .int (e 0), .ref pg]) (fun J332 => ?_) ?_
            · refine K.if_eq d0_290 (fun hc333 => ?_) (fun hc333 => ?_)
              · refine K.iconst (0 : Int32) d0_297 rfl ?_
                exact J332 _ (if_pos hc333).symm
              · refine K.iconst (1 : Int32) d0_293 rfl ?_
                refine K.goto d0_294 ?_
                exact J332 _ (if_neg hc333).symm
            intro z331 hz331
            as_aux_lemma =>
              refine K.callV (a := pg) [.int (e 0), .int (0 : Int32), .int z331] [] 0 15 79 d0_298 (wd107 hw) (wd108 hw) (wd110 hw) (wd109 hw) (wd53 hw) (wd111 hw) (by decide) (rmEL l Z a0 hw ek aq cq pq oq kd su sa pg ga ag op ki na de pa sb fd st 0 1 (.ref ek) lv (lv + 1) 0 (0 : Int32) .null (0 : Int32) e (fun _ => .int 0) (fun _ => .int 0) (fun _ => .int 0) (fun _ => .int 0) (fun _ => 0) z331 h257 n0 PO gpg ⟨S270, S271, S272, S273, S274, S275, I276, E277, F278, hfd, hna, hnc, hnp⟩ E303 E260 ⟨F304, F305, F306, F307, F308, F309, F310, F311, F312, F313, F314, F315, F316, F317, F318, F319, F320, F321⟩ ⟨F322, F323, F324, F325, F326, F327, F328, F329⟩ A265 A266 A330 A268 A269 (by decide) (by decide) (own_ne1 he0a) A264 (own_st hs1 hs2 (by decide)) (by omega) (by rw [hlv1]; omega) (by rw [hlv1]; omega) (by rw [hlv1]; omega) (Nat.le_refl _) (fun j hj => absurd hj (by omega))) E303 rfl (lenOf pd_24 rfl) rfl (Nat.le_of_eq rfl) (by decide) (by decide) rfl rfl (by decide) (by decide) (goU fun h334 q335 => ?_)
              obtain ⟨K336, ob1, oc1, g1, hoc1, hob1, heq1, hg1, A337, N338, N339, ⟨fn345, N340⟩, ⟨fn346, N341⟩, N342, ⟨fn347, N343⟩, ⟨fn348, N344⟩⟩ := q335
              have S349 := staK S270 K336 (allS (plE E303) (allS (plE E260) (allS (plA A265) (allS (plA A266) (allS (plA A330) (allS (plA A268) (allS (plA A269) (allS (plA A264) all0))))))))
              have S350 := staK S271 K336 (allS (plE E303) (allS (plE E260) (allS (plA A265) (allS (plA A266) (allS (plA A330) (allS (plA A268) (allS (plA A269) (allS (plA A264) all0))))))))
              have S351 := staK S272 K336 (allS (plE E303) (allS (plE E260) (allS (plA A265) (allS (plA A266) (allS (plA A330) (allS (plA A268) (allS (plA A269) (allS (plA A264) all0))))))))
              have S352 := staK S273 K336 (allS (plE E303) (allS (plE E260) (allS (plA A265) (allS (plA A266) (allS (plA A330) (allS (plA A268) (allS (plA A269) (allS (plA A264) all0))))))))
              have S353 := staK S274 K336 (allS (plE E303) (allS (plE E260) (allS (plA A265) (allS (plA A266) (allS (plA A330) (allS (plA A268) (allS (plA A269) (allS (plA A264) all0))))))))
              have S354 := staK S275 K336 (allS (plE E303) (allS (plE E260) (allS (plA A265) (allS (plA A266) (allS (plA A330) (allS (plA A268) (allS (plA A269) (allS (plA A264) all0))))))))
              have I355 := I276.keep K336 (ninS (Nat.ne_of_lt od_kd_pg) (ninS (Nat.ne_of_lt od_kd_ga) (ninS (Nat.ne_of_lt od_kd_ki) (ninS (Nat.ne_of_lt od_kd_na) (ninS (Nat.ne_of_lt od_kd_de) (ninS (Nat.ne_of_lt od_kd_pa) (ninS (Nat.ne_of_lt od_kd_sb) (ninS (Nat.ne_of_lt od_kd_op) nin0))))))))
              have E356 := E277.keep K336
              have F357 := F278.keep K336 (ninS (Nat.ne_of_lt od_ek_pg) (ninS (Nat.ne_of_lt od_ek_ga) (ninS (Nat.ne_of_lt od_ek_ki) (ninS (Nat.ne_of_lt od_ek_na) (ninS (Nat.ne_of_lt od_ek_de) (ninS (Nat.ne_of_lt od_ek_pa) (ninS (Nat.ne_of_lt od_ek_sb) (ninS (Nat.ne_of_lt od_ek_op) nin0))))))))
              have E358 := E291.keep K336
              have F359 := F294.keep K336 (ninS (Nat.ne_of_lt od_su_pg) (ninS (Nat.ne_of_lt od_su_ga) (ninS (Nat.ne_of_lt od_su_ki) (ninS (Nat.ne_of_lt od_su_na) (ninS (Nat.ne_of_lt od_su_de) (ninS (Nat.ne_of_lt od_su_pa) (ninS (Nat.ne_of_lt od_su_sb) (ninS (Nat.ne_of_lt od_su_op) nin0))))))))
              have F360 := F295.keep K336 (ninS (Nat.ne_of_lt od_su_pg) (ninS (Nat.ne_of_lt od_su_ga) (ninS (Nat.ne_of_lt od_su_ki) (ninS (Nat.ne_of_lt od_su_na) (ninS (Nat.ne_of_lt od_su_de) (ninS (Nat.ne_of_lt od_su_pa) (ninS (Nat.ne_of_lt od_su_sb) (ninS (Nat.ne_of_lt od_su_op) nin0))))))))
              have F361 := F296.keep K336 (ninS (Nat.ne_of_lt od_su_pg) (ninS (Nat.ne_of_lt od_su_ga) (ninS (Nat.ne_of_lt od_su_ki) (ninS (Nat.ne_of_lt od_su_na) (ninS (Nat.ne_of_lt od_su_de) (ninS (Nat.ne_of_lt od_su_pa) (ninS (Nat.ne_of_lt od_su_sb) (ninS (Nat.ne_of_lt od_su_op) nin0))))))))
              have F362 := F297.keep K336 (ninS (Nat.ne_of_lt od_su_pg) (ninS (Nat.ne_of_lt od_su_ga) (ninS (Nat.ne_of_lt od_su_ki) (ninS (Nat.ne_of_lt od_su_na) (ninS (Nat.ne_of_lt od_su_de) (ninS (Nat.ne_of_lt od_su_pa) (ninS (Nat.ne_of_lt od_su_sb) (ninS (Nat.ne_of_lt od_su_op) nin0))))))))
              have F363 := F298.keep K336 (ninS (Nat.ne_of_lt od_su_pg) (ninS (Nat.ne_of_lt od_su_ga) (ninS (Nat.ne_of_lt od_su_ki) (ninS (Nat.ne_of_lt od_su_na) (ninS (Nat.ne_of_lt od_su_de) (ninS (Nat.ne_of_lt od_su_pa) (ninS (Nat.ne_of_lt od_su_sb) (ninS (Nat.ne_of_lt od_su_op) nin0))))))))
              have F364 := F299.keep K336 (ninS (Nat.ne_of_lt od_su_pg) (ninS (Nat.ne_of_lt od_su_ga) (ninS (Nat.ne_of_lt od_su_ki) (ninS (Nat.ne_of_lt od_su_na) (ninS (Nat.ne_of_lt od_su_de) (ninS (Nat.ne_of_lt od_su_pa) (ninS (Nat.ne_of_lt od_su_sb) (ninS (Nat.ne_of_lt od_su_op) nin0))))))))
              have F365 := F300.keep K336 (ninS (Nat.ne_of_lt od_su_pg) (ninS (Nat.ne_of_lt od_su_ga) (ninS (Nat.ne_of_lt od_su_ki) (ninS (Nat.ne_of_lt od_su_na) (ninS (Nat.ne_of_lt od_su_de) (ninS (Nat.ne_of_lt od_su_pa) (ninS (Nat.ne_of_lt od_su_sb) (ninS (Nat.ne_of_lt od_su_op) nin0))))))))
              have F366 := F301.keep K336 (ninS (Nat.ne_of_lt od_su_pg) (ninS (Nat.ne_of_lt od_su_ga) (ninS (Nat.ne_of_lt od_su_ki) (ninS (Nat.ne_of_lt od_su_na) (ninS (Nat.ne_of_lt od_su_de) (ninS (Nat.ne_of_lt od_su_pa) (ninS (Nat.ne_of_lt od_su_sb) (ninS (Nat.ne_of_lt od_su_op) nin0))))))))
              have I367 := I302.keep K336 (ninS (Nat.ne_of_lt od_sa_pg) (ninS (Nat.ne_of_lt od_sa_ga) (ninS (Nat.ne_of_lt od_sa_ki) (ninS (Nat.ne_of_lt od_sa_na) (ninS (Nat.ne_of_lt od_sa_de) (ninS (Nat.ne_of_lt od_sa_pa) (ninS (Nat.ne_of_lt od_sa_sb) (ninS (Nat.ne_of_lt od_sa_op) nin0))))))))
              have E368 := E303.keep K336
              have E369 := E260.keep K336
              have I370 := A263.keep K336 (ninS (Nat.ne_of_gt od_pg_ag) (ninS (Nat.ne_of_gt od_ga_ag) (ninS (Nat.ne_of_lt od_ag_ki) (ninS (Nat.ne_of_lt od_ag_na) (ninS (Nat.ne_of_lt od_ag_de) (ninS (Nat.ne_of_lt od_ag_pa) (ninS (Nat.ne_of_lt od_ag_sb) (ninS (Nat.ne_of_lt od_ag_op) nin0))))))))
              obtain ⟨F371, F372, F373, F374, F375, F376, F377, F378, F379, F380, F381, F382, F383, F384, F385, F386, F387, F388⟩ := N338
              obtain ⟨F389, F390, F391, F392, F393, F394, F395, F396⟩ := N339
              rw [own_ls0] at F390
              refine K.iload d0_301 rfl ?_
              refine K.iconst (2 : Int32) d0_303 rfl ?_
              refine K.ic_lt d0_304 (fun _ => ?_) (fun u => absurd (by decide) u)
              refine K.iload d0_329 rfl ?_
              refine K.iconst (3 : Int32) d0_331 rfl ?_
              refine K.ic_lt d0_332 (fun _ => ?_) (fun u => absurd (by decide) u)
              refine K.iload d0_357 rfl ?_
              refine K.iconst (4 : Int32) d0_359 rfl ?_
              refine K.ic_lt d0_360 (fun _ => ?_) (fun u => absurd (by decide) u)
              as_aux_lemma =>
                refine K.aload d0_385 rfl rfl ?_
                refine K.callV (a := pg) [] [] 0 19 111 d0_387 (wd171 hw) (wd172 hw) (wd174 hw) (wd173 hw) (wd53 hw) (wd175 hw) (by decide) (rmEN l Z a0 hw ek aq cq pq oq kd su sa pg ga ag op ki na de pa sb fd st 1 (e 0) ob1 (Int32.ofNat oc1) (e 0) (e 0) e h334 n0 PO gpg ⟨S349, S350, S351, S352, S353, S354, I355, E356, F357, hfd, hna, hnc, hnp⟩ E368 E369 E358 ⟨F371, F372, F373, F374, F375, F376, F377, F378, F379, F380, F381, F382, F383, F384, F385, F386, F387, F388⟩ ⟨F389, F390, F391, F392, F393, F394, F395, F396⟩ ⟨F359, F360, F361, F362, F363, F364, F365, F366⟩ I370 I367 N342 (by decide) (by decide) (fun j hj => hmx j (by omega))) E368 rfl (lenOf pd_2 rfl) rfl (Nat.le_of_eq rfl) (by decide) (by decide) rfl rfl (by decide) (by decide) (goU fun h397 q398 => ?_)
                obtain ⟨K399, tt, m, w, hm1, hm4, PM, FS, FD, FT, AT_, AD_⟩ := q398
                have EP := E368.keep K399
                refine K.iload d0_390 rfl ?_
                refine K.iconst (4 : Int32) d0_392 rfl ?_
                as_aux_lemma =>
                  refine cut (P := ∀ (z : Int32) (r : Nat), z = Int32.ofNat r → r < 1 → ¬ dd < e r → (∀ x, r < x → x < 1 → dd < e x) → Wk E h397 19 111 450 #[.val (.int sh), .val (.int ba), .val (.int fi), .val (.int qu), .val (.int cn), .val (.int (Int32.ofNat 1)), .val (.int b), .val (.int st), .val (.int o0), .val (.int o1), .val (.int o2), .val (.int o3), .val (.int (e 0)), .val (.int (e 1)), .val (.int (e 2)), .val (.int (e 3)), .val (.int (e 0)), .val (.int (e 0)), .val (.int dd), .val (.int lv), .val (.ref be), .val (.ref su), .val (.ref pg), .val (.int z)] []) (fun J400 => ?_) ?_
                  · refine K.ic_lt d0_393 (fun _ => ?_) (fun u => absurd (by decide) u)
                    refine K.iload d0_409 rfl ?_
                    refine K.iconst (3 : Int32) d0_411 rfl ?_
                    refine K.ic_lt d0_412 (fun _ => ?_) (fun u => absurd (by decide) u)
                    refine K.iload d0_428 rfl ?_
                    refine K.iconst (2 : Int32) d0_430 rfl ?_
                    refine K.ic_lt d0_431 (fun _ => ?_) (fun u => absurd (by decide) u)
                    refine K.iconst (0 : Int32) d0_447 rfl ?_
                    refine K.istore #[.val (.int sh), .val (.int ba), .val (.int fi), .val (.int qu), .val (.int cn), .val (.int (Int32.ofNat 1)), .val (.int b), .val (.int st), .val (.int o0), .val (.int o1), .val (.int o2), .val (.int o3), .val (.int (e 0)), .val (.int (e 1)), .val (.int (e 2)), .val (.int (e 3)), .val (.int (e 0)), .val (.int (e 0)), .val (.int dd), .val (.int lv), .val (.ref be), .val (.ref su), .val (.ref pg), .val (.int (0 : Int32))] d0_448 rfl ?_
                    exact J400 _ 0 rfl (by decide) (fun q => hdd q) (fun x h1 h2 => absurd h2 (by omega))
                  intro z r hz hr hz1 hz2
                  obtain ⟨jr, hjr, ejr, H⟩ := PM.find hr hz1 hz2
                  refine K.aload d0_450 rfl rfl ?_
                  refine K.iload d0_452 rfl ?_
                  refine K.callV (a := pg) [.int dd] [] 0 19 111 d0_454 (wd224 hw) (wd225 hw) (wd227 hw) (wd226 hw) (wd53 hw) (wd228 hw) (by decide) (rmLA l Z a0 hw pg de tt st dd 1 m jr e (fun j => Int32.ofNat (1 - 1 - w (m - 1 - j))) (fun j => 1 - 1 - w (m - 1 - j)) h397 n0 FS FD FT AD_ AT_ (by decide) hm1 hm4 (fun j hj => ⟨rfl, (by show 1 - 1 - _ < 1; omega)⟩) hjr H) EP rfl (lenOf pd_16 rfl) rfl (Nat.le_of_eq rfl) (by decide) (by decide) rfl rfl (by decide) (by decide) (goP ?_)
                  refine K.iload d0_457 rfl ?_
                  refine K.iload d0_459 rfl ?_
                  refine K.iadd d0_461 ?_
                  refine K.ic_ne d0_462 (fun _ => ?_) (fun u => absurd (by show st + Int32.ofNat (1 - 1 - w (m - 1 - jr)) = st + z; rw [ejr, hz]) u)
                  refine K.iconst (1 : Int32) d0_465 rfl ?_
                  refine K.goto d0_466 ?_
                  exact K.ireturn d0_470 (Or.inr (Or.inl rfl)) rfl (by decide) (by decide) rfl
  · refine K.iload d0_106 rfl ?_
    refine K.istore #[.val (.int sh), .val (.int ba), .val (.int fi), .val (.int qu), .val (.int cn), .val (.int (Int32.ofNat 2)), .val (.int b), .val (.int st), .val (.int o0), .val (.int o1), .val (.int o2), .val (.int o3), .val (.int (e 0)), .val (.int (e 1)), .val (.int (e 2)), .val (.int (e 3)), .val (.int (e 0)), .unset, .unset, .unset, .unset, .unset, .unset, .unset] d0_108 rfl ?_
    refine K.iload d0_110 rfl ?_
    refine K.iconst (2 : Int32) d0_112 rfl ?_
    refine K.ic_lt d0_113 (fun u => absurd u (by decide)) (fun _ => ?_)
    refine K.iload d0_116 rfl ?_
    refine K.iload d0_118 rfl ?_
    refine K.callS [.int (e 0), .int (e 1)] [] 0 0 0 d0_120 (wd3 hw) (wd4 hw) (wd5 hw) (wd6 hw) (by decide) (rmMN l Z a0 hw (e 0) (e 1) h n0) rfl (lenOf pd_5 rfl) rfl (Nat.le_of_eq rfl) (by decide) (by decide) rfl rfl (by decide) (by decide) (goP ?_)
    refine K.istore #[.val (.int sh), .val (.int ba), .val (.int fi), .val (.int qu), .val (.int cn), .val (.int (Int32.ofNat 2)), .val (.int b), .val (.int st), .val (.int o0), .val (.int o1), .val (.int o2), .val (.int o3), .val (.int (e 0)), .val (.int (e 1)), .val (.int (e 2)), .val (.int (e 3)), .val (.int (own_mn (e 0) (e 1))), .unset, .unset, .unset, .unset, .unset, .unset, .unset] d0_123 rfl ?_
    refine K.iload d0_125 rfl ?_
    refine K.iconst (3 : Int32) d0_127 rfl ?_
    refine K.ic_lt d0_128 (fun _ => ?_) (fun u => absurd (by decide) u)
    refine K.iload d0_140 rfl ?_
    refine K.iconst (4 : Int32) d0_142 rfl ?_
    refine K.ic_lt d0_143 (fun _ => ?_) (fun u => absurd (by decide) u)
    refine K.iload d0_155 rfl ?_
    refine K.iconst (1 : Int32) d0_157 rfl ?_
    refine K.ic_ne d0_158 (fun u => absurd u (by decide)) (fun _ => ?_)
    refine K.iload d0_166 rfl ?_
    refine K.iconst (2 : Int32) d0_168 rfl ?_
    refine K.ic_ne d0_169 (fun _ => ?_) (fun u => absurd (by decide) u)
    refine K.iload d0_172 rfl ?_
    refine K.goto d0_174 ?_
    refine K.istore #[.val (.int sh), .val (.int ba), .val (.int fi), .val (.int qu), .val (.int cn), .val (.int (Int32.ofNat 2)), .val (.int b), .val (.int st), .val (.int o0), .val (.int o1), .val (.int o2), .val (.int o3), .val (.int (e 0)), .val (.int (e 1)), .val (.int (e 2)), .val (.int (e 3)), .val (.int (own_mn (e 0) (e 1))), .val (.int (e 1)), .unset, .unset, .unset, .unset, .unset, .unset] d0_190 rfl ?_
    refine K.iloadN d0_192 rfl ?_
    refine K.iload d0_193 rfl ?_
    have hl0 : 0 ≤ (own_mn (e 0) (e 1)).toInt := (own_mn_nn (by omega) (by omega))
    have hl1 : (own_mn (e 0) (e 1)).toInt ≤ 2147483640 := (own_mn_lx (by omega))
    as_aux_lemma =>
      refine cut (P := ∀ dd : Int32, ¬ dd < own_mn (e 0) (e 1) → Wk E h 0 0 209 #[.val (.int sh), .val (.int ba), .val (.int fi), .val (.int qu), .val (.int cn), .val (.int (Int32.ofNat 2)), .val (.int b), .val (.int st), .val (.int o0), .val (.int o1), .val (.int o2), .val (.int o3), .val (.int (e 0)), .val (.int (e 1)), .val (.int (e 2)), .val (.int (e 3)), .val (.int (own_mn (e 0) (e 1))), .val (.int (e 1)), .unset, .unset, .unset, .unset, .unset, .unset] [.int dd]) (fun J401 => ?_) ?_
      · refine K.ic_ge d0_195 (fun hc402 => ?_) (fun hc402 => ?_)
        · refine K.iload d0_198 rfl ?_
          refine K.iloadN d0_200 rfl ?_
          refine K.bipush (7 : Int32) d0_201 rfl ?_
          refine K.iand d0_203 ?_
          refine K.iadd d0_204 ?_
          refine K.goto d0_205 ?_
          exact J401 _ (own_dd hl0 hl1)
        · refine K.iloadN d0_208 rfl ?_
          exact J401 _ hc402
      intro dd hdd
      refine K.istore #[.val (.int sh), .val (.int ba), .val (.int fi), .val (.int qu), .val (.int cn), .val (.int (Int32.ofNat 2)), .val (.int b), .val (.int st), .val (.int o0), .val (.int o1), .val (.int o2), .val (.int o3), .val (.int (e 0)), .val (.int (e 1)), .val (.int (e 2)), .val (.int (e 3)), .val (.int (own_mn (e 0) (e 1))), .val (.int (e 1)), .val (.int dd), .unset, .unset, .unset, .unset, .unset] d0_209 rfl ?_
      refine K.iload d0_211 rfl ?_
      refine K.iconst (3 : Int32) d0_213 rfl ?_
      refine K.iadd d0_214 ?_
      rw [elv]
      as_aux_lemma =>
        refine K.istore #[.val (.int sh), .val (.int ba), .val (.int fi), .val (.int qu), .val (.int cn), .val (.int (Int32.ofNat 2)), .val (.int b), .val (.int st), .val (.int o0), .val (.int o1), .val (.int o2), .val (.int o3), .val (.int (e 0)), .val (.int (e 1)), .val (.int (e 2)), .val (.int (e 3)), .val (.int (own_mn (e 0) (e 1))), .val (.int (e 1)), .val (.int dd), .val (.int lv), .unset, .unset, .unset, .unset] d0_215 rfl ?_
        refine K.newO 1 8 d0_217 (wd7 hw) (wd8 hw) (wd9 hw) rfl rfl (by decide) (by decide) (fun h403 be ha404 g405 X406 A407 D408 => ?_)
        have lt_ek_be : ek < be := by rw [ha404]; exact E8.lt
        have lt_kd_be : kd < be := by rw [ha404]; exact I7.lt
        have S409 := S1.ext X406
        have S410 := S2.ext X406
        have S411 := S3.ext X406
        have S412 := S4.ext X406
        have S413 := S5.ext X406
        have S414 := S6.ext X406
        have I415 := I7.ext X406
        have E416 := E8.ext X406
        have F417 := F9.ext X406
        have F418 : Fld Z h403 be "com/example/horatius/horatius/core/PageSummary" "nodes" "I" (.int (0 : Int32)) := D408 (Or.inl (wd21 hw)) (ty := .int) (by decide)
        have F419 : Fld Z h403 be "com/example/horatius/horatius/core/PageSummary" "leastDepth" "I" (.int (0 : Int32)) := D408 (Or.inl (wd23 hw)) (ty := .int) (by decide)
        have F420 : Fld Z h403 be "com/example/horatius/horatius/core/PageSummary" "lastKind" "Lcom/example/horatius/horatius/core/NodeKind;" .null := D408 (Or.inl (wd31 hw)) (ty := (.object "com/example/horatius/horatius/core/NodeKind")) (by decide)
        have F421 : Fld Z h403 be "com/example/horatius/horatius/core/PageSummary" "lastDepth" "I" (.int (0 : Int32)) := D408 (Or.inl (wd33 hw)) (ty := .int) (by decide)
        have F422 : Fld Z h403 be "com/example/horatius/horatius/core/PageSummary" "topElements" "I" (.int (0 : Int32)) := D408 (Or.inl (wd35 hw)) (ty := .int) (by decide)
        have F423 : Fld Z h403 be "com/example/horatius/horatius/core/PageSummary" "typedAttributes" "I" (.int (0 : Int32)) := D408 (Or.inl (wd37 hw)) (ty := .int) (by decide)
        have F424 : Fld Z h403 be "com/example/horatius/horatius/core/PageSummary" "asides" "[I" .null := D408 (Or.inl (wd48 hw)) (ty := (.array .int)) (by decide)
        have F425 : Fld Z h403 be "com/example/horatius/horatius/core/PageSummary" "asideCount" "I" (.int (0 : Int32)) := D408 (Or.inl (wd50 hw)) (ty := .int) (by decide)
        refine K.dup d0_220 rfl ?_
        refine K.iconst (1 : Int32) d0_221 rfl ?_
        refine K.iload d0_222 rfl ?_
        refine K.getS d0_224 (wd10 hw) S409 ?_
        refine K.iload d0_227 rfl ?_
        refine K.iconst (0 : Int32) d0_229 rfl ?_
        refine K.iconst (0 : Int32) d0_230 rfl ?_
        refine K.iconst (0 : Int32) d0_231 rfl ?_
        refine K.newPX 0 2 8 d0_232 (wd13 hw) (by decide) (by decide) (by decide) rfl rfl (by decide) (by decide) (fun h427 a426 ha428 g429 X430 A431 E432 => ?_)
        have lt_be_a426 : be < a426 := by rw [ha428]; exact A407.lt
        have lt_ek_a426 : ek < a426 := by rw [ha428]; exact E416.lt
        have lt_kd_a426 : kd < a426 := by rw [ha428]; exact I415.lt
        have S433 := S409.ext X430
        have S434 := S410.ext X430
        have S435 := S411.ext X430
        have S436 := S412.ext X430
        have S437 := S413.ext X430
        have S438 := S414.ext X430
        have I439 := I415.ext X430
        have E440 := E416.ext X430
        have F441 := F417.ext X430
        have E442 := A407.ext X430
        have F443 := F418.ext X430
        have F444 := F419.ext X430
        have F445 := F420.ext X430
        have F446 := F421.ext X430
        have F447 := F422.ext X430
        have F448 := F423.ext X430
        have F449 := F424.ext X430
        have F450 := F425.ext X430
        refine K.callI (a := be) [.int (1 : Int32), .int lv, .ref ek, .int lv, .int (0 : Int32), .int (0 : Int32), .ref a426] [.ref be] 1 3 8 d0_234 rfl rfl (wd14 hw) (wd15 hw) (wd9 hw) (wd16 hw) (by decide) (rmSI l Z a0 hw be a426 ek (1 : Int32) lv lv h427 n0 E442 g405 F443 F444 F445 F446 F447 F448 F449 F450 A431 E432 E440 (Nat.ne_of_gt lt_be_a426) (by decide) (own_nn0 (by omega)) (own_irr _)) rfl (lenOf pd_22 rfl) rfl (Nat.le_of_eq rfl) (by decide) (by decide) rfl rfl (by decide) (by decide) (goU fun h451 q452 => ?_)
        obtain ⟨c453, g454, e455, K456, G457, A458⟩ := q452
        have lt_a426_c453 : a426 < c453 := Nat.lt_of_lt_of_le A431.lt g454
        have lt_be_c453 : be < c453 := Nat.lt_of_lt_of_le E442.lt g454
        have lt_ek_c453 : ek < c453 := Nat.lt_of_lt_of_le E440.lt g454
        have lt_kd_c453 : kd < c453 := Nat.lt_of_lt_of_le I439.lt g454
        have S459 := staK S433 K456 (allS (plE E442) all0)
        have S460 := staK S434 K456 (allS (plE E442) all0)
        have S461 := staK S435 K456 (allS (plE E442) all0)
        have S462 := staK S436 K456 (allS (plE E442) all0)
        have S463 := staK S437 K456 (allS (plE E442) all0)
        have S464 := staK S438 K456 (allS (plE E442) all0)
        have I465 := I439.keep K456 (ninS (Nat.ne_of_lt lt_kd_be) nin0)
        have E466 := E440.keep K456
        have F467 := F441.keep K456 (ninS (Nat.ne_of_lt lt_ek_be) nin0)
        have E468 := E442.keep K456
        have I469 := A431.keep K456 (ninS (Nat.ne_of_gt lt_be_a426) nin0)
        have E470 := E432.keep K456
        obtain ⟨F471, F472, F473, F474, F475, F476, F477, F478⟩ := G457
        refine K.astore #[.val (.int sh), .val (.int ba), .val (.int fi), .val (.int qu), .val (.int cn), .val (.int (Int32.ofNat 2)), .val (.int b), .val (.int st), .val (.int o0), .val (.int o1), .val (.int o2), .val (.int o3), .val (.int (e 0)), .val (.int (e 1)), .val (.int (e 2)), .val (.int (e 3)), .val (.int (own_mn (e 0) (e 1))), .val (.int (e 1)), .val (.int dd), .val (.int lv), .val (.ref be), .unset, .unset, .unset] d0_237 rfl rfl ?_
        as_aux_lemma =>
          refine K.newO 4 16 d0_239 (wd7 hw) (wd8 hw) (wd9 hw) rfl rfl (by decide) (by decide) (fun h479 su ha480 g481 X482 A483 D484 => ?_)
          have lt_a426_su : a426 < su := by rw [ha480]; exact I469.lt
          have lt_be_su : be < su := by rw [ha480]; exact E468.lt
          have lt_c453_su : c453 < su := by rw [ha480]; exact A458.lt
          have lt_ek_su : ek < su := by rw [ha480]; exact E466.lt
          have lt_kd_su : kd < su := by rw [ha480]; exact I465.lt
          have S485 := S459.ext X482
          have S486 := S460.ext X482
          have S487 := S461.ext X482
          have S488 := S462.ext X482
          have S489 := S463.ext X482
          have S490 := S464.ext X482
          have I491 := I465.ext X482
          have E492 := E466.ext X482
          have F493 := F467.ext X482
          have E494 := E468.ext X482
          have I495 := I469.ext X482
          have E496 := E470.ext X482
          have F497 := F471.ext X482
          have F498 := F472.ext X482
          have F499 := F473.ext X482
          have F500 := F474.ext X482
          have F501 := F475.ext X482
          have F502 := F476.ext X482
          have F503 := F477.ext X482
          have F504 := F478.ext X482
          have I505 := A458.ext X482
          have F506 : Fld Z h479 su "com/example/horatius/horatius/core/PageSummary" "nodes" "I" (.int (0 : Int32)) := D484 (Or.inl (wd21 hw)) (ty := .int) (by decide)
          have F507 : Fld Z h479 su "com/example/horatius/horatius/core/PageSummary" "leastDepth" "I" (.int (0 : Int32)) := D484 (Or.inl (wd23 hw)) (ty := .int) (by decide)
          have F508 : Fld Z h479 su "com/example/horatius/horatius/core/PageSummary" "lastKind" "Lcom/example/horatius/horatius/core/NodeKind;" .null := D484 (Or.inl (wd31 hw)) (ty := (.object "com/example/horatius/horatius/core/NodeKind")) (by decide)
          have F509 : Fld Z h479 su "com/example/horatius/horatius/core/PageSummary" "lastDepth" "I" (.int (0 : Int32)) := D484 (Or.inl (wd33 hw)) (ty := .int) (by decide)
          have F510 : Fld Z h479 su "com/example/horatius/horatius/core/PageSummary" "topElements" "I" (.int (0 : Int32)) := D484 (Or.inl (wd35 hw)) (ty := .int) (by decide)
          have F511 : Fld Z h479 su "com/example/horatius/horatius/core/PageSummary" "typedAttributes" "I" (.int (0 : Int32)) := D484 (Or.inl (wd37 hw)) (ty := .int) (by decide)
          have F512 : Fld Z h479 su "com/example/horatius/horatius/core/PageSummary" "asides" "[I" .null := D484 (Or.inl (wd48 hw)) (ty := (.array .int)) (by decide)
          have F513 : Fld Z h479 su "com/example/horatius/horatius/core/PageSummary" "asideCount" "I" (.int (0 : Int32)) := D484 (Or.inl (wd50 hw)) (ty := .int) (by decide)
          refine K.dup d0_242 rfl ?_
          refine K.iload d0_243 rfl ?_
          refine K.iload d0_245 rfl ?_
          refine K.getS d0_247 (wd10 hw) S485 ?_
          refine K.iload d0_250 rfl ?_
          refine K.iconst (0 : Int32) d0_252 rfl ?_
          refine K.iconst (0 : Int32) d0_253 rfl ?_
          refine K.iconst (0 : Int32) d0_254 rfl ?_
          refine K.newPX 0 5 16 d0_255 (wd13 hw) (by decide) (by decide) (by decide) rfl rfl (by decide) (by decide) (fun h515 a514 ha516 g517 X518 A519 E520 => ?_)
          have lt_a426_a514 : a426 < a514 := by rw [ha516]; exact I495.lt
          have lt_be_a514 : be < a514 := by rw [ha516]; exact E494.lt
          have lt_c453_a514 : c453 < a514 := by rw [ha516]; exact I505.lt
          have lt_ek_a514 : ek < a514 := by rw [ha516]; exact E492.lt
          have lt_kd_a514 : kd < a514 := by rw [ha516]; exact I491.lt
          have lt_su_a514 : su < a514 := by rw [ha516]; exact A483.lt
          have S521 := S485.ext X518
          have S522 := S486.ext X518
          have S523 := S487.ext X518
          have S524 := S488.ext X518
          have S525 := S489.ext X518
          have S526 := S490.ext X518
          have I527 := I491.ext X518
          have E528 := E492.ext X518
          have F529 := F493.ext X518
          have E530 := E494.ext X518
          have I531 := I495.ext X518
          have E532 := E496.ext X518
          have F533 := F497.ext X518
          have F534 := F498.ext X518
          have F535 := F499.ext X518
          have F536 := F500.ext X518
          have F537 := F501.ext X518
          have F538 := F502.ext X518
          have F539 := F503.ext X518
          have F540 := F504.ext X518
          have I541 := I505.ext X518
          have E542 := A483.ext X518
          have F543 := F506.ext X518
          have F544 := F507.ext X518
          have F545 := F508.ext X518
          have F546 := F509.ext X518
          have F547 := F510.ext X518
          have F548 := F511.ext X518
          have F549 := F512.ext X518
          have F550 := F513.ext X518
          refine K.callI (a := su) [.int (Int32.ofNat 2), .int (own_mn (e 0) (e 1)), .ref ek, .int (e 1), .int (0 : Int32), .int (0 : Int32), .ref a514] [.ref su] 1 6 16 d0_257 rfl rfl (wd14 hw) (wd15 hw) (wd9 hw) (wd16 hw) (by decide) (rmSI l Z a0 hw su a514 ek (Int32.ofNat 2) (own_mn (e 0) (e 1)) (e 1) h515 n0 E542 g481 F543 F544 F545 F546 F547 F548 F549 F550 A519 E520 E528 (Nat.ne_of_gt lt_su_a514) (by decide) (own_nn0 hl0) (own_mn_ly _ _)) rfl (lenOf pd_22 rfl) rfl (Nat.le_of_eq rfl) (by decide) (by decide) rfl rfl (by decide) (by decide) (goU fun h551 q552 => ?_)
          obtain ⟨sa, g553, e554, K555, G556, A557⟩ := q552
          have lt_a426_sa : a426 < sa := Nat.lt_of_lt_of_le I531.lt g553
          have lt_a514_sa : a514 < sa := Nat.lt_of_lt_of_le A519.lt g553
          have lt_be_sa : be < sa := Nat.lt_of_lt_of_le E530.lt g553
          have lt_c453_sa : c453 < sa := Nat.lt_of_lt_of_le I541.lt g553
          have lt_ek_sa : ek < sa := Nat.lt_of_lt_of_le E528.lt g553
          have lt_kd_sa : kd < sa := Nat.lt_of_lt_of_le I527.lt g553
          have lt_su_sa : su < sa := Nat.lt_of_lt_of_le E542.lt g553
          have S558 := staK S521 K555 (allS (plE E542) all0)
          have S559 := staK S522 K555 (allS (plE E542) all0)
          have S560 := staK S523 K555 (allS (plE E542) all0)
          have S561 := staK S524 K555 (allS (plE E542) all0)
          have S562 := staK S525 K555 (allS (plE E542) all0)
          have S563 := staK S526 K555 (allS (plE E542) all0)
          have I564 := I527.keep K555 (ninS (Nat.ne_of_lt lt_kd_su) nin0)
          have E565 := E528.keep K555
          have F566 := F529.keep K555 (ninS (Nat.ne_of_lt lt_ek_su) nin0)
          have E567 := E530.keep K555
          have I568 := I531.keep K555 (ninS (Nat.ne_of_lt lt_a426_su) nin0)
          have E569 := E532.keep K555
          have F570 := F533.keep K555 (ninS (Nat.ne_of_lt lt_be_su) nin0)
          have F571 := F534.keep K555 (ninS (Nat.ne_of_lt lt_be_su) nin0)
          have F572 := F535.keep K555 (ninS (Nat.ne_of_lt lt_be_su) nin0)
          have F573 := F536.keep K555 (ninS (Nat.ne_of_lt lt_be_su) nin0)
          have F574 := F537.keep K555 (ninS (Nat.ne_of_lt lt_be_su) nin0)
          have F575 := F538.keep K555 (ninS (Nat.ne_of_lt lt_be_su) nin0)
          have F576 := F539.keep K555 (ninS (Nat.ne_of_lt lt_be_su) nin0)
          have F577 := F540.keep K555 (ninS (Nat.ne_of_lt lt_be_su) nin0)
          have I578 := I541.keep K555 (ninS (Nat.ne_of_lt lt_c453_su) nin0)
          have E579 := E542.keep K555
          have I580 := A519.keep K555 (ninS (Nat.ne_of_gt lt_su_a514) nin0)
          have E581 := E520.keep K555
          obtain ⟨F582, F583, F584, F585, F586, F587, F588, F589⟩ := G556
          refine K.astore #[.val (.int sh), .val (.int ba), .val (.int fi), .val (.int qu), .val (.int cn), .val (.int (Int32.ofNat 2)), .val (.int b), .val (.int st), .val (.int o0), .val (.int o1), .val (.int o2), .val (.int o3), .val (.int (e 0)), .val (.int (e 1)), .val (.int (e 2)), .val (.int (e 3)), .val (.int (own_mn (e 0) (e 1))), .val (.int (e 1)), .val (.int dd), .val (.int lv), .val (.ref be), .val (.ref su), .unset, .unset] d0_260 rfl rfl ?_
          refine K.newO 7 35 d0_262 (wd51 hw) (wd52 hw) (wd53 hw) rfl rfl (by decide) (by decide) (fun h590 pg ha591 g592 X593 A594 D595 => ?_)
          have lt_a426_pg : a426 < pg := by rw [ha591]; exact I568.lt
          have lt_a514_pg : a514 < pg := by rw [ha591]; exact I580.lt
          have lt_be_pg : be < pg := by rw [ha591]; exact E567.lt
          have lt_c453_pg : c453 < pg := by rw [ha591]; exact I578.lt
          have lt_ek_pg : ek < pg := by rw [ha591]; exact E565.lt
          have lt_kd_pg : kd < pg := by rw [ha591]; exact I564.lt
          have lt_sa_pg : sa < pg := by rw [ha591]; exact A557.lt
          have lt_su_pg : su < pg := by rw [ha591]; exact E579.lt
          have S596 := S558.ext X593
          have S597 := S559.ext X593
          have S598 := S560.ext X593
          have S599 := S561.ext X593
          have S600 := S562.ext X593
          have S601 := S563.ext X593
          have I602 := I564.ext X593
          have E603 := E565.ext X593
          have F604 := F566.ext X593
          have E605 := E567.ext X593
          have I606 := I568.ext X593
          have E607 := E569.ext X593
          have F608 := F570.ext X593
          have F609 := F571.ext X593
          have F610 := F572.ext X593
          have F611 := F573.ext X593
          have F612 := F574.ext X593
          have F613 := F575.ext X593
          have F614 := F576.ext X593
          have F615 := F577.ext X593
          have I616 := I578.ext X593
          have E617 := E579.ext X593
          have I618 := I580.ext X593
          have E619 := E581.ext X593
          have F620 := F582.ext X593
          have F621 := F583.ext X593
          have F622 := F584.ext X593
          have F623 := F585.ext X593
          have F624 := F586.ext X593
          have F625 := F587.ext X593
          have F626 := F588.ext X593
          have F627 := F589.ext X593
          have I628 := A557.ext X593
          have F629 : Fld Z h590 pg "com/example/horatius/horatius/core/OutlinePage" "gathered" "Lcom/example/horatius/horatius/core/PageSummary;" .null := D595 (Or.inr (wd63 hw)) (ty := (.object "com/example/horatius/horatius/core/PageSummary")) (by decide)
          have F630 : Fld Z h590 pg "com/example/horatius/horatius/core/OutlinePage" "open" "[I" .null := D595 (Or.inl (wd65 hw)) (ty := (.array .int)) (by decide)
          have F631 : Fld Z h590 pg "com/example/horatius/horatius/core/OutlinePage" "index" "I" (.int (0 : Int32)) := D595 (Or.inr (wd67 hw)) (ty := .int) (by decide)
          have F632 : Fld Z h590 pg "com/example/horatius/horatius/core/OutlinePage" "start" "I" (.int (0 : Int32)) := D595 (Or.inr (wd69 hw)) (ty := .int) (by decide)
          have F633 : Fld Z h590 pg "com/example/horatius/horatius/core/OutlinePage" "summary" "Lcom/example/horatius/horatius/core/PageSummary;" .null := D595 (Or.inr (wd71 hw)) (ty := (.object "com/example/horatius/horatius/core/PageSummary")) (by decide)
          have F634 : Fld Z h590 pg "com/example/horatius/horatius/core/OutlinePage" "nameCount" "I" (.int (0 : Int32)) := D595 (Or.inr (wd73 hw)) (ty := .int) (by decide)
          have F635 : Fld Z h590 pg "com/example/horatius/horatius/core/OutlinePage" "previousKind" "Lcom/example/horatius/horatius/core/NodeKind;" .null := D595 (Or.inl (wd80 hw)) (ty := (.object "com/example/horatius/horatius/core/NodeKind")) (by decide)
          have F636 : Fld Z h590 pg "com/example/horatius/horatius/core/OutlinePage" "previousDepth" "I" (.int (0 : Int32)) := D595 (Or.inl (wd87 hw)) (ty := .int) (by decide)
          have F637 : Fld Z h590 pg "com/example/horatius/horatius/core/OutlinePage" "openBefore" "I" (.int (0 : Int32)) := D595 (Or.inl (wd90 hw)) (ty := .int) (by decide)
          have F638 : Fld Z h590 pg "com/example/horatius/horatius/core/OutlinePage" "kinds" "[B" .null := D595 (Or.inr (wd98 hw)) (ty := (.array .byte)) (by decide)
          have F639 : Fld Z h590 pg "com/example/horatius/horatius/core/OutlinePage" "names" "[I" .null := D595 (Or.inr (wd100 hw)) (ty := (.array .int)) (by decide)
          have F640 : Fld Z h590 pg "com/example/horatius/horatius/core/OutlinePage" "depths" "[I" .null := D595 (Or.inr (wd102 hw)) (ty := (.array .int)) (by decide)
          have F641 : Fld Z h590 pg "com/example/horatius/horatius/core/OutlinePage" "parents" "[I" .null := D595 (Or.inr (wd104 hw)) (ty := (.array .int)) (by decide)
          have F642 : Fld Z h590 pg "com/example/horatius/horatius/core/OutlinePage" "subtreeEnds" "[I" .null := D595 (Or.inr (wd106 hw)) (ty := (.array .int)) (by decide)
          have F643 : Fld Z h590 pg "com/example/horatius/horatius/core/OutlinePage" "size" "I" (.int (0 : Int32)) := D595 (Or.inl (wd121 hw)) (ty := .int) (by decide)
          have F644 : Fld Z h590 pg "com/example/horatius/horatius/core/OutlinePage" "openCount" "I" (.int (0 : Int32)) := D595 (Or.inl (wd123 hw)) (ty := .int) (by decide)
          have F645 : Fld Z h590 pg "com/example/horatius/horatius/core/OutlinePage" "ended" "Z" (.int (0 : Int32)) := D595 (Or.inl (wd142 hw)) (ty := .boolean) (by decide)
          have F646 : Fld Z h590 pg "com/example/horatius/horatius/core/OutlinePage" "shallowestFromStart" "[I" .null := D595 (Or.inl (wd208 hw)) (ty := (.array .int)) (by decide)
          have F647 : Fld Z h590 pg "com/example/horatius/horatius/core/OutlinePage" "shallowestToEnd" "[I" .null := D595 (Or.inl (wd210 hw)) (ty := (.array .int)) (by decide)
          as_aux_lemma =>
            refine K.dup d0_265 rfl ?_
            refine K.iconst (1 : Int32) d0_266 rfl ?_
            refine K.iload d0_267 rfl ?_
            refine K.aload d0_269 rfl rfl ?_
            refine K.aload d0_271 rfl rfl ?_
            refine K.iconst (1 : Int32) d0_273 rfl ?_
            refine K.callI (a := pg) [.int (1 : Int32), .int st, .ref su, .ref be, .int (1 : Int32)] [.ref pg] 1 15 79 d0_274 rfl rfl (wd54 hw) (wd55 hw) (wd53 hw) (wd56 hw) (by decide) (rmOI l Z a0 hw pg su be ek st lv 2 h590 n0 A594 g592 F632 F633 F634 F638 F639 F640 F641 F642 F629 F643 F635 F636 F637 F630 F644 F646 F647 F645 F631 E617 E605 F620 F610 F611 S596 (Nat.ne_of_lt lt_su_pg) (Nat.ne_of_lt lt_be_pg) (by decide)) rfl (lenOf pd_23 rfl) rfl (Nat.le_of_eq rfl) (by decide) (by decide) rfl rfl (by decide) (by decide) (goU fun h648 q649 => ?_)
            obtain ⟨ki, na, de, pa, sb, ga, ag, op, ⟨ch_pg_ga, ch_ga_ag, ch_ag_op, ch_op_ki, ch_ki_na, ch_na_de, ch_de_pa, ch_pa_sb⟩, K650, E651, P652, G653, A654, A655, A656, A657, A658, A659, A660⟩ := q649
            have S661 := staK S596 K650 (allS (plE A594) all0)
            have S662 := staK S597 K650 (allS (plE A594) all0)
            have S663 := staK S598 K650 (allS (plE A594) all0)
            have S664 := staK S599 K650 (allS (plE A594) all0)
            have S665 := staK S600 K650 (allS (plE A594) all0)
            have S666 := staK S601 K650 (allS (plE A594) all0)
            have I667 := I602.keep K650 (ninS (Nat.ne_of_lt lt_kd_pg) nin0)
            have E668 := E603.keep K650
            have F669 := F604.keep K650 (ninS (Nat.ne_of_lt lt_ek_pg) nin0)
            have E670 := E605.keep K650
            have I671 := I606.keep K650 (ninS (Nat.ne_of_lt lt_a426_pg) nin0)
            have E672 := E607.keep K650
            have F673 := F608.keep K650 (ninS (Nat.ne_of_lt lt_be_pg) nin0)
            have F674 := F609.keep K650 (ninS (Nat.ne_of_lt lt_be_pg) nin0)
            have F675 := F610.keep K650 (ninS (Nat.ne_of_lt lt_be_pg) nin0)
            have F676 := F611.keep K650 (ninS (Nat.ne_of_lt lt_be_pg) nin0)
            have F677 := F612.keep K650 (ninS (Nat.ne_of_lt lt_be_pg) nin0)
            have F678 := F613.keep K650 (ninS (Nat.ne_of_lt lt_be_pg) nin0)
            have F679 := F614.keep K650 (ninS (Nat.ne_of_lt lt_be_pg) nin0)
            have F680 := F615.keep K650 (ninS (Nat.ne_of_lt lt_be_pg) nin0)
            have I681 := I616.keep K650 (ninS (Nat.ne_of_lt lt_c453_pg) nin0)
            have E682 := E617.keep K650
            have I683 := I618.keep K650 (ninS (Nat.ne_of_lt lt_a514_pg) nin0)
            have E684 := E619.keep K650
            have F685 := F620.keep K650 (ninS (Nat.ne_of_lt lt_su_pg) nin0)
            have F686 := F621.keep K650 (ninS (Nat.ne_of_lt lt_su_pg) nin0)
            have F687 := F622.keep K650 (ninS (Nat.ne_of_lt lt_su_pg) nin0)
            have F688 := F623.keep K650 (ninS (Nat.ne_of_lt lt_su_pg) nin0)
            have F689 := F624.keep K650 (ninS (Nat.ne_of_lt lt_su_pg) nin0)
            have F690 := F625.keep K650 (ninS (Nat.ne_of_lt lt_su_pg) nin0)
            have F691 := F626.keep K650 (ninS (Nat.ne_of_lt lt_su_pg) nin0)
            have F692 := F627.keep K650 (ninS (Nat.ne_of_lt lt_su_pg) nin0)
            have I693 := I628.keep K650 (ninS (Nat.ne_of_lt lt_sa_pg) nin0)
            have E694 := A594.keep K650
            have PO : Od ek kd su sa pg ga ag op ki na de pa sb := ⟨⟨lt_ek_pg, lt_kd_pg, lt_su_pg, lt_sa_pg⟩, ch_pg_ga, ch_ga_ag, ch_ag_op, ch_op_ki, ch_ki_na, ch_na_de, ch_de_pa, ch_pa_sb⟩
            have gpg := g592
            obtain ⟨⟨od_ek_pg, od_kd_pg, od_su_pg, od_sa_pg⟩, od_pg_ga, od_ga_ag, od_ag_op, od_op_ki, od_ki_na, od_na_de, od_de_pa, od_pa_sb⟩ := id PO
            have od_pg_ag := Nat.lt_trans od_pg_ga od_ga_ag
            have od_pg_op := Nat.lt_trans od_pg_ag od_ag_op
            have od_pg_ki := Nat.lt_trans od_pg_op od_op_ki
            have od_pg_na := Nat.lt_trans od_pg_ki od_ki_na
            have od_pg_de := Nat.lt_trans od_pg_na od_na_de
            have od_pg_pa := Nat.lt_trans od_pg_de od_de_pa
            have od_pg_sb := Nat.lt_trans od_pg_pa od_pa_sb
            have od_ga_op := Nat.lt_trans od_ga_ag od_ag_op
            have od_ga_ki := Nat.lt_trans od_ga_op od_op_ki
            have od_ga_na := Nat.lt_trans od_ga_ki od_ki_na
            have od_ga_de := Nat.lt_trans od_ga_na od_na_de
            have od_ga_pa := Nat.lt_trans od_ga_de od_de_pa
            have od_ga_sb := Nat.lt_trans od_ga_pa od_pa_sb
            have od_ag_ki := Nat.lt_trans od_ag_op od_op_ki
            have od_ag_na := Nat.lt_trans od_ag_ki od_ki_na
            have od_ag_de := Nat.lt_trans od_ag_na od_na_de
            have od_ag_pa := Nat.lt_trans od_ag_de od_de_pa
            have od_ag_sb := Nat.lt_trans od_ag_pa od_pa_sb
            have od_op_na := Nat.lt_trans od_op_ki od_ki_na
            have od_op_de := Nat.lt_trans od_op_na od_na_de
            have od_op_pa := Nat.lt_trans od_op_de od_de_pa
            have od_op_sb := Nat.lt_trans od_op_pa od_pa_sb
            have od_ki_de := Nat.lt_trans od_ki_na od_na_de
            have od_ki_pa := Nat.lt_trans od_ki_de od_de_pa
            have od_ki_sb := Nat.lt_trans od_ki_pa od_pa_sb
            have od_na_pa := Nat.lt_trans od_na_de od_de_pa
            have od_na_sb := Nat.lt_trans od_na_pa od_pa_sb
            have od_de_sb := Nat.lt_trans od_de_pa od_pa_sb
            have od_ek_ga := Nat.lt_trans od_ek_pg od_pg_ga
            have od_ek_ag := Nat.lt_trans od_ek_pg od_pg_ag
            have od_ek_op := Nat.lt_trans od_ek_pg od_pg_op
            have od_ek_ki := Nat.lt_trans od_ek_pg od_pg_ki
            have od_ek_na := Nat.lt_trans od_ek_pg od_pg_na
            have od_ek_de := Nat.lt_trans od_ek_pg od_pg_de
            have od_ek_pa := Nat.lt_trans od_ek_pg od_pg_pa
            have od_ek_sb := Nat.lt_trans od_ek_pg od_pg_sb
            have od_kd_ga := Nat.lt_trans od_kd_pg od_pg_ga
            have od_kd_ag := Nat.lt_trans od_kd_pg od_pg_ag
            have od_kd_op := Nat.lt_trans od_kd_pg od_pg_op
            have od_kd_ki := Nat.lt_trans od_kd_pg od_pg_ki
            have od_kd_na := Nat.lt_trans od_kd_pg od_pg_na
            have od_kd_de := Nat.lt_trans od_kd_pg od_pg_de
            have od_kd_pa := Nat.lt_trans od_kd_pg od_pg_pa
            have od_kd_sb := Nat.lt_trans od_kd_pg od_pg_sb
            have od_su_ga := Nat.lt_trans od_su_pg od_pg_ga
            have od_su_ag := Nat.lt_trans od_su_pg od_pg_ag
            have od_su_op := Nat.lt_trans od_su_pg od_pg_op
            have od_su_ki := Nat.lt_trans od_su_pg od_pg_ki
            have od_su_na := Nat.lt_trans od_su_pg od_pg_na
            have od_su_de := Nat.lt_trans od_su_pg od_pg_de
            have od_su_pa := Nat.lt_trans od_su_pg od_pg_pa
            have od_su_sb := Nat.lt_trans od_su_pg od_pg_sb
            have od_sa_ga := Nat.lt_trans od_sa_pg od_pg_ga
            have od_sa_ag := Nat.lt_trans od_sa_pg od_pg_ag
            have od_sa_op := Nat.lt_trans od_sa_pg od_pg_op
            have od_sa_ki := Nat.lt_trans od_sa_pg od_pg_ki
            have od_sa_na := Nat.lt_trans od_sa_pg od_pg_na
            have od_sa_de := Nat.lt_trans od_sa_pg od_pg_de
            have od_sa_pa := Nat.lt_trans od_sa_pg od_pg_pa
            have od_sa_sb := Nat.lt_trans od_sa_pg od_pg_sb
            have ge_ga := Nat.le_trans gpg (Nat.le_of_lt od_pg_ga)
            have ge_ag := Nat.le_trans gpg (Nat.le_of_lt od_pg_ag)
            have ge_op := Nat.le_trans gpg (Nat.le_of_lt od_pg_op)
            have ge_ki := Nat.le_trans gpg (Nat.le_of_lt od_pg_ki)
            have ge_na := Nat.le_trans gpg (Nat.le_of_lt od_pg_na)
            have ge_de := Nat.le_trans gpg (Nat.le_of_lt od_pg_de)
            have ge_pa := Nat.le_trans gpg (Nat.le_of_lt od_pg_pa)
            have ge_sb := Nat.le_trans gpg (Nat.le_of_lt od_pg_sb)
            obtain ⟨F695, F696, F697, F698, F699, F700, F701, F702, F703, F704, F705, F706, F707, F708, F709, F710, F711, F712⟩ := P652
            obtain ⟨F713, F714, F715, F716, F717, F718, F719, F720⟩ := G653
            have A721 := A658.congr (own_dzero e _)
            refine K.astore #[.val (.int sh), .val (.int ba), .val (.int fi), .val (.int qu), .val (.int cn), .val (.int (Int32.ofNat 2)), .val (.int b), .val (.int st), .val (.int o0), .val (.int o1), .val (.int o2), .val (.int o3), .val (.int (e 0)), .val (.int (e 1)), .val (.int (e 2)), .val (.int (e 3)), .val (.int (own_mn (e 0) (e 1))), .val (.int (e 1)), .val (.int dd), .val (.int lv), .val (.ref be), .val (.ref su), .val (.ref pg), .unset] d0_277 rfl rfl ?_
            refine K.aload d0_279 rfl rfl ?_
            refine K.iload d0_281 rfl ?_
            refine K.iconst (0 : Int32) d0_283 rfl ?_
            refine K.iloadN d0_284 rfl ?_
            refine K.bipush (8 : Int32) d0_285 rfl ?_
            refine K.iushr d0_287 ?_
            refine K.iconst (1 : Int32) d0_288 rfl ?_
            refine K.iand d0_289 ?_
            refine cut (P := ∀ z722 : Int32, z722 = (if (((sh.toUInt32 >>> ((8 : Int32) &&& 31).toUInt32).toInt32) &&& (1 : Int32)) = 0 then 0 else 1) → Wk E h648 15 79 298 #[.val (.int sh), .val (.int ba), .val (.int fi), .val (.int qu), .val (.int cn), .val (.int (Int32.ofNat 2)), .val (.int b), .val (.int st), .val (.int o0), .val (.int o1), .val (.int o2), .val (.int o3), .val (.int (e 0)), .val (.int (e 1)), .val (.int (e 2)), .val (.int (e 3)), .val (.int (own_mn (e 0) (e 1))), .val (.int (e 1)), .val (.int dd), .val (.int lv), .val (.ref be), .val (.ref su), .val (.ref pg), .unset] [.int z722, .int (0 : Int32), .int (e 0), .ref pg]) (fun J723 => ?_) ?_
            · refine K.if_eq d0_290 (fun hc724 => ?_) (fun hc724 => ?_)
              · refine K.iconst (0 : Int32) d0_297 rfl ?_
                exact J723 _ (if_pos hc724).symm
              · refine K.iconst (1 : Int32) d0_293 rfl ?_
                refine K.goto d0_294 ?_
                exact J723 _ (if_neg hc724).symm
            intro z722 hz722
            as_aux_lemma =>
              refine K.callV (a := pg) [.int (e 0), .int (0 : Int32), .int z722] [] 0 15 79 d0_298 (wd107 hw) (wd108 hw) (wd110 hw) (wd109 hw) (wd53 hw) (wd111 hw) (by decide) (rmEL l Z a0 hw ek aq cq pq oq kd su sa pg ga ag op ki na de pa sb fd st 0 2 (.ref ek) lv (lv + 1) 0 (0 : Int32) .null (0 : Int32) e (fun _ => .int 0) (fun _ => .int 0) (fun _ => .int 0) (fun _ => .int 0) (fun _ => 0) z722 h648 n0 PO gpg ⟨S661, S662, S663, S664, S665, S666, I667, E668, F669, hfd, hna, hnc, hnp⟩ E694 E651 ⟨F695, F696, F697, F698, F699, F700, F701, F702, F703, F704, F705, F706, F707, F708, F709, F710, F711, F712⟩ ⟨F713, F714, F715, F716, F717, F718, F719, F720⟩ A656 A657 A721 A659 A660 (by decide) (by decide) (own_ne1 he0a) A655 (own_st hs1 hs2 (by decide)) (by omega) (by rw [hlv1]; omega) (by rw [hlv1]; omega) (by rw [hlv1]; omega) (Nat.le_refl _) (fun j hj => absurd hj (by omega))) E694 rfl (lenOf pd_24 rfl) rfl (Nat.le_of_eq rfl) (by decide) (by decide) rfl rfl (by decide) (by decide) (goU fun h725 q726 => ?_)
              obtain ⟨K727, ob1, oc1, g1, hoc1, hob1, heq1, hg1, A728, N729, N730, ⟨fn736, N731⟩, ⟨fn737, N732⟩, N733, ⟨fn738, N734⟩, ⟨fn739, N735⟩⟩ := q726
              have S740 := staK S661 K727 (allS (plE E694) (allS (plE E651) (allS (plA A656) (allS (plA A657) (allS (plA A721) (allS (plA A659) (allS (plA A660) (allS (plA A655) all0))))))))
              have S741 := staK S662 K727 (allS (plE E694) (allS (plE E651) (allS (plA A656) (allS (plA A657) (allS (plA A721) (allS (plA A659) (allS (plA A660) (allS (plA A655) all0))))))))
              have S742 := staK S663 K727 (allS (plE E694) (allS (plE E651) (allS (plA A656) (allS (plA A657) (allS (plA A721) (allS (plA A659) (allS (plA A660) (allS (plA A655) all0))))))))
              have S743 := staK S664 K727 (allS (plE E694) (allS (plE E651) (allS (plA A656) (allS (plA A657) (allS (plA A721) (allS (plA A659) (allS (plA A660) (allS (plA A655) all0))))))))
              have S744 := staK S665 K727 (allS (plE E694) (allS (plE E651) (allS (plA A656) (allS (plA A657) (allS (plA A721) (allS (plA A659) (allS (plA A660) (allS (plA A655) all0))))))))
              have S745 := staK S666 K727 (allS (plE E694) (allS (plE E651) (allS (plA A656) (allS (plA A657) (allS (plA A721) (allS (plA A659) (allS (plA A660) (allS (plA A655) all0))))))))
              have I746 := I667.keep K727 (ninS (Nat.ne_of_lt od_kd_pg) (ninS (Nat.ne_of_lt od_kd_ga) (ninS (Nat.ne_of_lt od_kd_ki) (ninS (Nat.ne_of_lt od_kd_na) (ninS (Nat.ne_of_lt od_kd_de) (ninS (Nat.ne_of_lt od_kd_pa) (ninS (Nat.ne_of_lt od_kd_sb) (ninS (Nat.ne_of_lt od_kd_op) nin0))))))))
              have E747 := E668.keep K727
              have F748 := F669.keep K727 (ninS (Nat.ne_of_lt od_ek_pg) (ninS (Nat.ne_of_lt od_ek_ga) (ninS (Nat.ne_of_lt od_ek_ki) (ninS (Nat.ne_of_lt od_ek_na) (ninS (Nat.ne_of_lt od_ek_de) (ninS (Nat.ne_of_lt od_ek_pa) (ninS (Nat.ne_of_lt od_ek_sb) (ninS (Nat.ne_of_lt od_ek_op) nin0))))))))
              have E749 := E682.keep K727
              have F750 := F685.keep K727 (ninS (Nat.ne_of_lt od_su_pg) (ninS (Nat.ne_of_lt od_su_ga) (ninS (Nat.ne_of_lt od_su_ki) (ninS (Nat.ne_of_lt od_su_na) (ninS (Nat.ne_of_lt od_su_de) (ninS (Nat.ne_of_lt od_su_pa) (ninS (Nat.ne_of_lt od_su_sb) (ninS (Nat.ne_of_lt od_su_op) nin0))))))))
              have F751 := F686.keep K727 (ninS (Nat.ne_of_lt od_su_pg) (ninS (Nat.ne_of_lt od_su_ga) (ninS (Nat.ne_of_lt od_su_ki) (ninS (Nat.ne_of_lt od_su_na) (ninS (Nat.ne_of_lt od_su_de) (ninS (Nat.ne_of_lt od_su_pa) (ninS (Nat.ne_of_lt od_su_sb) (ninS (Nat.ne_of_lt od_su_op) nin0))))))))
              have F752 := F687.keep K727 (ninS (Nat.ne_of_lt od_su_pg) (ninS (Nat.ne_of_lt od_su_ga) (ninS (Nat.ne_of_lt od_su_ki) (ninS (Nat.ne_of_lt od_su_na) (ninS (Nat.ne_of_lt od_su_de) (ninS (Nat.ne_of_lt od_su_pa) (ninS (Nat.ne_of_lt od_su_sb) (ninS (Nat.ne_of_lt od_su_op) nin0))))))))
              have F753 := F688.keep K727 (ninS (Nat.ne_of_lt od_su_pg) (ninS (Nat.ne_of_lt od_su_ga) (ninS (Nat.ne_of_lt od_su_ki) (ninS (Nat.ne_of_lt od_su_na) (ninS (Nat.ne_of_lt od_su_de) (ninS (Nat.ne_of_lt od_su_pa) (ninS (Nat.ne_of_lt od_su_sb) (ninS (Nat.ne_of_lt od_su_op) nin0))))))))
              have F754 := F689.keep K727 (ninS (Nat.ne_of_lt od_su_pg) (ninS (Nat.ne_of_lt od_su_ga) (ninS (Nat.ne_of_lt od_su_ki) (ninS (Nat.ne_of_lt od_su_na) (ninS (Nat.ne_of_lt od_su_de) (ninS (Nat.ne_of_lt od_su_pa) (ninS (Nat.ne_of_lt od_su_sb) (ninS (Nat.ne_of_lt od_su_op) nin0))))))))
              have F755 := F690.keep K727 (ninS (Nat.ne_of_lt od_su_pg) (ninS (Nat.ne_of_lt od_su_ga) (ninS (Nat.ne_of_lt od_su_ki) (ninS (Nat.ne_of_lt od_su_na) (ninS (Nat.ne_of_lt od_su_de) (ninS (Nat.ne_of_lt od_su_pa) (ninS (Nat.ne_of_lt od_su_sb) (ninS (Nat.ne_of_lt od_su_op) nin0))))))))
              have F756 := F691.keep K727 (ninS (Nat.ne_of_lt od_su_pg) (ninS (Nat.ne_of_lt od_su_ga) (ninS (Nat.ne_of_lt od_su_ki) (ninS (Nat.ne_of_lt od_su_na) (ninS (Nat.ne_of_lt od_su_de) (ninS (Nat.ne_of_lt od_su_pa) (ninS (Nat.ne_of_lt od_su_sb) (ninS (Nat.ne_of_lt od_su_op) nin0))))))))
              have F757 := F692.keep K727 (ninS (Nat.ne_of_lt od_su_pg) (ninS (Nat.ne_of_lt od_su_ga) (ninS (Nat.ne_of_lt od_su_ki) (ninS (Nat.ne_of_lt od_su_na) (ninS (Nat.ne_of_lt od_su_de) (ninS (Nat.ne_of_lt od_su_pa) (ninS (Nat.ne_of_lt od_su_sb) (ninS (Nat.ne_of_lt od_su_op) nin0))))))))
              have I758 := I693.keep K727 (ninS (Nat.ne_of_lt od_sa_pg) (ninS (Nat.ne_of_lt od_sa_ga) (ninS (Nat.ne_of_lt od_sa_ki) (ninS (Nat.ne_of_lt od_sa_na) (ninS (Nat.ne_of_lt od_sa_de) (ninS (Nat.ne_of_lt od_sa_pa) (ninS (Nat.ne_of_lt od_sa_sb) (ninS (Nat.ne_of_lt od_sa_op) nin0))))))))
              have E759 := E694.keep K727
              have E760 := E651.keep K727
              have I761 := A654.keep K727 (ninS (Nat.ne_of_gt od_pg_ag) (ninS (Nat.ne_of_gt od_ga_ag) (ninS (Nat.ne_of_lt od_ag_ki) (ninS (Nat.ne_of_lt od_ag_na) (ninS (Nat.ne_of_lt od_ag_de) (ninS (Nat.ne_of_lt od_ag_pa) (ninS (Nat.ne_of_lt od_ag_sb) (ninS (Nat.ne_of_lt od_ag_op) nin0))))))))
              obtain ⟨F762, F763, F764, F765, F766, F767, F768, F769, F770, F771, F772, F773, F774, F775, F776, F777, F778, F779⟩ := N729
              obtain ⟨F780, F781, F782, F783, F784, F785, F786, F787⟩ := N730
              rw [own_ls0] at F781
              refine K.iload d0_301 rfl ?_
              refine K.iconst (2 : Int32) d0_303 rfl ?_
              refine K.ic_lt d0_304 (fun u => absurd u (by decide)) (fun _ => ?_)
              refine K.aload d0_307 rfl rfl ?_
              refine K.iload d0_309 rfl ?_
              refine K.iconst (0 : Int32) d0_311 rfl ?_
              refine K.iloadN d0_312 rfl ?_
              refine K.bipush (9 : Int32) d0_313 rfl ?_
              refine K.iushr d0_315 ?_
              refine K.iconst (1 : Int32) d0_316 rfl ?_
              refine K.iand d0_317 ?_
              refine cut (P := ∀ z788 : Int32, z788 = (if (((sh.toUInt32 >>> ((9 : Int32) &&& 31).toUInt32).toInt32) &&& (1 : Int32)) = 0 then 0 else 1) → Wk E h725 15 79 326 #[.val (.int sh), .val (.int ba), .val (.int fi), .val (.int qu), .val (.int cn), .val (.int (Int32.ofNat 2)), .val (.int b), .val (.int st), .val (.int o0), .val (.int o1), .val (.int o2), .val (.int o3), .val (.int (e 0)), .val (.int (e 1)), .val (.int (e 2)), .val (.int (e 3)), .val (.int (own_mn (e 0) (e 1))), .val (.int (e 1)), .val (.int dd), .val (.int lv), .val (.ref be), .val (.ref su), .val (.ref pg), .unset] [.int z788, .int (0 : Int32), .int (e 1), .ref pg]) (fun J789 => ?_) ?_
              · refine K.if_eq d0_318 (fun hc790 => ?_) (fun hc790 => ?_)
                · refine K.iconst (0 : Int32) d0_325 rfl ?_
                  exact J789 _ (if_pos hc790).symm
                · refine K.iconst (1 : Int32) d0_321 rfl ?_
                  refine K.goto d0_322 ?_
                  exact J789 _ (if_neg hc790).symm
              intro z788 hz788
              as_aux_lemma =>
                refine K.callV (a := pg) [.int (e 1), .int (0 : Int32), .int z788] [] 0 15 79 d0_326 (wd107 hw) (wd108 hw) (wd110 hw) (wd109 hw) (wd53 hw) (wd111 hw) (by decide) (rmEL l Z a0 hw ek aq cq pq oq kd su sa pg ga ag op ki na de pa sb fd st 1 2 (.ref ek) (e 0) ob1 oc1 (e 0) (.ref ek) (e 0) e fn736 fn737 fn738 fn739 g1 z788 h725 n0 PO gpg ⟨S740, S741, S742, S743, S744, S745, I746, E747, F748, hfd, hna, hnc, hnp⟩ E759 E760 ⟨F762, F763, F764, F765, F766, F767, F768, F769, F770, F771, F772, F773, F774, F775, F776, F777, F778, F779⟩ ⟨F780, F781, F782, F783, F784, F785, F786, F787⟩ N731 N732 N733 N734 N735 (by decide) (by decide) (own_ne1 he1a) A728 (own_st hs1 hs2 (by decide)) (by omega) (by omega) hob1 (by omega) hoc1 hg1) E759 rfl (lenOf pd_24 rfl) rfl (Nat.le_of_eq rfl) (by decide) (by decide) rfl rfl (by decide) (by decide) (goU fun h791 q792 => ?_)
                obtain ⟨K793, ob2, oc2, g2, hoc2, hob2, heq2, hg2, A794, N795, N796, ⟨fn802, N797⟩, ⟨fn803, N798⟩, N799, ⟨fn804, N800⟩, ⟨fn805, N801⟩⟩ := q792
                have S806 := staK S740 K793 (allS (plE E759) (allS (plE E760) (allS (plA N731) (allS (plA N732) (allS (plA N733) (allS (plA N734) (allS (plA N735) (allS (plA A728) all0))))))))
                have S807 := staK S741 K793 (allS (plE E759) (allS (plE E760) (allS (plA N731) (allS (plA N732) (allS (plA N733) (allS (plA N734) (allS (plA N735) (allS (plA A728) all0))))))))
                have S808 := staK S742 K793 (allS (plE E759) (allS (plE E760) (allS (plA N731) (allS (plA N732) (allS (plA N733) (allS (plA N734) (allS (plA N735) (allS (plA A728) all0))))))))
                have S809 := staK S743 K793 (allS (plE E759) (allS (plE E760) (allS (plA N731) (allS (plA N732) (allS (plA N733) (allS (plA N734) (allS (plA N735) (allS (plA A728) all0))))))))
                have S810 := staK S744 K793 (allS (plE E759) (allS (plE E760) (allS (plA N731) (allS (plA N732) (allS (plA N733) (allS (plA N734) (allS (plA N735) (allS (plA A728) all0))))))))
                have S811 := staK S745 K793 (allS (plE E759) (allS (plE E760) (allS (plA N731) (allS (plA N732) (allS (plA N733) (allS (plA N734) (allS (plA N735) (allS (plA A728) all0))))))))
                have I812 := I746.keep K793 (ninS (Nat.ne_of_lt od_kd_pg) (ninS (Nat.ne_of_lt od_kd_ga) (ninS (Nat.ne_of_lt od_kd_ki) (ninS (Nat.ne_of_lt od_kd_na) (ninS (Nat.ne_of_lt od_kd_de) (ninS (Nat.ne_of_lt od_kd_pa) (ninS (Nat.ne_of_lt od_kd_sb) (ninS (Nat.ne_of_lt od_kd_op) nin0))))))))
                have E813 := E747.keep K793
                have F814 := F748.keep K793 (ninS (Nat.ne_of_lt od_ek_pg) (ninS (Nat.ne_of_lt od_ek_ga) (ninS (Nat.ne_of_lt od_ek_ki) (ninS (Nat.ne_of_lt od_ek_na) (ninS (Nat.ne_of_lt od_ek_de) (ninS (Nat.ne_of_lt od_ek_pa) (ninS (Nat.ne_of_lt od_ek_sb) (ninS (Nat.ne_of_lt od_ek_op) nin0))))))))
                have E815 := E749.keep K793
                have F816 := F750.keep K793 (ninS (Nat.ne_of_lt od_su_pg) (ninS (Nat.ne_of_lt od_su_ga) (ninS (Nat.ne_of_lt od_su_ki) (ninS (Nat.ne_of_lt od_su_na) (ninS (Nat.ne_of_lt od_su_de) (ninS (Nat.ne_of_lt od_su_pa) (ninS (Nat.ne_of_lt od_su_sb) (ninS (Nat.ne_of_lt od_su_op) nin0))))))))
                have F817 := F751.keep K793 (ninS (Nat.ne_of_lt od_su_pg) (ninS (Nat.ne_of_lt od_su_ga) (ninS (Nat.ne_of_lt od_su_ki) (ninS (Nat.ne_of_lt od_su_na) (ninS (Nat.ne_of_lt od_su_de) (ninS (Nat.ne_of_lt od_su_pa) (ninS (Nat.ne_of_lt od_su_sb) (ninS (Nat.ne_of_lt od_su_op) nin0))))))))
                have F818 := F752.keep K793 (ninS (Nat.ne_of_lt od_su_pg) (ninS (Nat.ne_of_lt od_su_ga) (ninS (Nat.ne_of_lt od_su_ki) (ninS (Nat.ne_of_lt od_su_na) (ninS (Nat.ne_of_lt od_su_de) (ninS (Nat.ne_of_lt od_su_pa) (ninS (Nat.ne_of_lt od_su_sb) (ninS (Nat.ne_of_lt od_su_op) nin0))))))))
                have F819 := F753.keep K793 (ninS (Nat.ne_of_lt od_su_pg) (ninS (Nat.ne_of_lt od_su_ga) (ninS (Nat.ne_of_lt od_su_ki) (ninS (Nat.ne_of_lt od_su_na) (ninS (Nat.ne_of_lt od_su_de) (ninS (Nat.ne_of_lt od_su_pa) (ninS (Nat.ne_of_lt od_su_sb) (ninS (Nat.ne_of_lt od_su_op) nin0))))))))
                have F820 := F754.keep K793 (ninS (Nat.ne_of_lt od_su_pg) (ninS (Nat.ne_of_lt od_su_ga) (ninS (Nat.ne_of_lt od_su_ki) (ninS (Nat.ne_of_lt od_su_na) (ninS (Nat.ne_of_lt od_su_de) (ninS (Nat.ne_of_lt od_su_pa) (ninS (Nat.ne_of_lt od_su_sb) (ninS (Nat.ne_of_lt od_su_op) nin0))))))))
                have F821 := F755.keep K793 (ninS (Nat.ne_of_lt od_su_pg) (ninS (Nat.ne_of_lt od_su_ga) (ninS (Nat.ne_of_lt od_su_ki) (ninS (Nat.ne_of_lt od_su_na) (ninS (Nat.ne_of_lt od_su_de) (ninS (Nat.ne_of_lt od_su_pa) (ninS (Nat.ne_of_lt od_su_sb) (ninS (Nat.ne_of_lt od_su_op) nin0))))))))
                have F822 := F756.keep K793 (ninS (Nat.ne_of_lt od_su_pg) (ninS (Nat.ne_of_lt od_su_ga) (ninS (Nat.ne_of_lt od_su_ki) (ninS (Nat.ne_of_lt od_su_na) (ninS (Nat.ne_of_lt od_su_de) (ninS (Nat.ne_of_lt od_su_pa) (ninS (Nat.ne_of_lt od_su_sb) (ninS (Nat.ne_of_lt od_su_op) nin0))))))))
                have F823 := F757.keep K793 (ninS (Nat.ne_of_lt od_su_pg) (ninS (Nat.ne_of_lt od_su_ga) (ninS (Nat.ne_of_lt od_su_ki) (ninS (Nat.ne_of_lt od_su_na) (ninS (Nat.ne_of_lt od_su_de) (ninS (Nat.ne_of_lt od_su_pa) (ninS (Nat.ne_of_lt od_su_sb) (ninS (Nat.ne_of_lt od_su_op) nin0))))))))
                have I824 := I758.keep K793 (ninS (Nat.ne_of_lt od_sa_pg) (ninS (Nat.ne_of_lt od_sa_ga) (ninS (Nat.ne_of_lt od_sa_ki) (ninS (Nat.ne_of_lt od_sa_na) (ninS (Nat.ne_of_lt od_sa_de) (ninS (Nat.ne_of_lt od_sa_pa) (ninS (Nat.ne_of_lt od_sa_sb) (ninS (Nat.ne_of_lt od_sa_op) nin0))))))))
                have E825 := E759.keep K793
                have E826 := E760.keep K793
                have I827 := I761.keep K793 (ninS (Nat.ne_of_gt od_pg_ag) (ninS (Nat.ne_of_gt od_ga_ag) (ninS (Nat.ne_of_lt od_ag_ki) (ninS (Nat.ne_of_lt od_ag_na) (ninS (Nat.ne_of_lt od_ag_de) (ninS (Nat.ne_of_lt od_ag_pa) (ninS (Nat.ne_of_lt od_ag_sb) (ninS (Nat.ne_of_lt od_ag_op) nin0))))))))
                obtain ⟨F828, F829, F830, F831, F832, F833, F834, F835, F836, F837, F838, F839, F840, F841, F842, F843, F844, F845⟩ := N795
                obtain ⟨F846, F847, F848, F849, F850, F851, F852, F853⟩ := N796
                rw [own_lsS (by decide)] at F847
                refine K.iload d0_329 rfl ?_
                refine K.iconst (3 : Int32) d0_331 rfl ?_
                refine K.ic_lt d0_332 (fun _ => ?_) (fun u => absurd (by decide) u)
                refine K.iload d0_357 rfl ?_
                refine K.iconst (4 : Int32) d0_359 rfl ?_
                refine K.ic_lt d0_360 (fun _ => ?_) (fun u => absurd (by decide) u)
                as_aux_lemma =>
                  refine K.aload d0_385 rfl rfl ?_
                  refine K.callV (a := pg) [] [] 0 19 111 d0_387 (wd171 hw) (wd172 hw) (wd174 hw) (wd173 hw) (wd53 hw) (wd175 hw) (by decide) (rmEN l Z a0 hw ek aq cq pq oq kd su sa pg ga ag op ki na de pa sb fd st 2 (e 1) ob2 (Int32.ofNat oc2) (own_mn (e 0) (e 1)) (e 1) e h791 n0 PO gpg ⟨S806, S807, S808, S809, S810, S811, I812, E813, F814, hfd, hna, hnc, hnp⟩ E825 E826 E815 ⟨F828, F829, F830, F831, F832, F833, F834, F835, F836, F837, F838, F839, F840, F841, F842, F843, F844, F845⟩ ⟨F846, F847, F848, F849, F850, F851, F852, F853⟩ ⟨F816, F817, F818, F819, F820, F821, F822, F823⟩ I827 I824 N799 (by decide) (by decide) (fun j hj => hmx j (by omega))) E825 rfl (lenOf pd_2 rfl) rfl (Nat.le_of_eq rfl) (by decide) (by decide) rfl rfl (by decide) (by decide) (goU fun h854 q855 => ?_)
                  obtain ⟨K856, tt, m, w, hm1, hm4, PM, FS, FD, FT, AT_, AD_⟩ := q855
                  have EP := E825.keep K856
                  refine K.iload d0_390 rfl ?_
                  refine K.iconst (4 : Int32) d0_392 rfl ?_
                  as_aux_lemma =>
                    refine cut (P := ∀ (z : Int32) (r : Nat), z = Int32.ofNat r → r < 2 → ¬ dd < e r → (∀ x, r < x → x < 2 → dd < e x) → Wk E h854 19 111 450 #[.val (.int sh), .val (.int ba), .val (.int fi), .val (.int qu), .val (.int cn), .val (.int (Int32.ofNat 2)), .val (.int b), .val (.int st), .val (.int o0), .val (.int o1), .val (.int o2), .val (.int o3), .val (.int (e 0)), .val (.int (e 1)), .val (.int (e 2)), .val (.int (e 3)), .val (.int (own_mn (e 0) (e 1))), .val (.int (e 1)), .val (.int dd), .val (.int lv), .val (.ref be), .val (.ref su), .val (.ref pg), .val (.int z)] []) (fun J857 => ?_) ?_
                    · refine K.ic_lt d0_393 (fun _ => ?_) (fun u => absurd (by decide) u)
                      refine K.iload d0_409 rfl ?_
                      refine K.iconst (3 : Int32) d0_411 rfl ?_
                      refine K.ic_lt d0_412 (fun _ => ?_) (fun u => absurd (by decide) u)
                      refine K.iload d0_428 rfl ?_
                      refine K.iconst (2 : Int32) d0_430 rfl ?_
                      refine K.ic_lt d0_431 (fun u => absurd u (by decide)) (fun _ => ?_)
                      refine K.iload d0_434 rfl ?_
                      refine K.iload d0_436 rfl ?_
                      refine K.ic_gt d0_438 (fun hc858 => ?_) (fun hc858 => ?_)
                      · refine K.iconst (0 : Int32) d0_447 rfl ?_
                        refine K.istore #[.val (.int sh), .val (.int ba), .val (.int fi), .val (.int qu), .val (.int cn), .val (.int (Int32.ofNat 2)), .val (.int b), .val (.int st), .val (.int o0), .val (.int o1), .val (.int o2), .val (.int o3), .val (.int (e 0)), .val (.int (e 1)), .val (.int (e 2)), .val (.int (e 3)), .val (.int (own_mn (e 0) (e 1))), .val (.int (e 1)), .val (.int dd), .val (.int lv), .val (.ref be), .val (.ref su), .val (.ref pg), .val (.int (0 : Int32))] d0_448 rfl ?_
                        exact J857 _ 0 rfl (by decide) (fun q => hdd (own_lmn q hc858)) (fun x h1 h2 => by rcases (show x = 1 by omega) with rfl <;> assumption)
                      · refine K.iconst (1 : Int32) d0_441 rfl ?_
                        refine K.istore #[.val (.int sh), .val (.int ba), .val (.int fi), .val (.int qu), .val (.int cn), .val (.int (Int32.ofNat 2)), .val (.int b), .val (.int st), .val (.int o0), .val (.int o1), .val (.int o2), .val (.int o3), .val (.int (e 0)), .val (.int (e 1)), .val (.int (e 2)), .val (.int (e 3)), .val (.int (own_mn (e 0) (e 1))), .val (.int (e 1)), .val (.int dd), .val (.int lv), .val (.ref be), .val (.ref su), .val (.ref pg), .val (.int (1 : Int32))] d0_442 rfl ?_
                        refine K.goto d0_444 ?_
                        exact J857 _ 1 rfl (by decide) hc858 (fun x h1 h2 => absurd h2 (by omega))
                    intro z r hz hr hz1 hz2
                    obtain ⟨jr, hjr, ejr, H⟩ := PM.find hr hz1 hz2
                    refine K.aload d0_450 rfl rfl ?_
                    refine K.iload d0_452 rfl ?_
                    refine K.callV (a := pg) [.int dd] [] 0 19 111 d0_454 (wd224 hw) (wd225 hw) (wd227 hw) (wd226 hw) (wd53 hw) (wd228 hw) (by decide) (rmLA l Z a0 hw pg de tt st dd 2 m jr e (fun j => Int32.ofNat (2 - 1 - w (m - 1 - j))) (fun j => 2 - 1 - w (m - 1 - j)) h854 n0 FS FD FT AD_ AT_ (by decide) hm1 hm4 (fun j hj => ⟨rfl, (by show 2 - 1 - _ < 2; omega)⟩) hjr H) EP rfl (lenOf pd_16 rfl) rfl (Nat.le_of_eq rfl) (by decide) (by decide) rfl rfl (by decide) (by decide) (goP ?_)
                    refine K.iload d0_457 rfl ?_
                    refine K.iload d0_459 rfl ?_
                    refine K.iadd d0_461 ?_
                    refine K.ic_ne d0_462 (fun _ => ?_) (fun u => absurd (by show st + Int32.ofNat (2 - 1 - w (m - 1 - jr)) = st + z; rw [ejr, hz]) u)
                    refine K.iconst (1 : Int32) d0_465 rfl ?_
                    refine K.goto d0_466 ?_
                    exact K.ireturn d0_470 (Or.inr (Or.inl rfl)) rfl (by decide) (by decide) rfl
  · refine K.iload d0_106 rfl ?_
    refine K.istore #[.val (.int sh), .val (.int ba), .val (.int fi), .val (.int qu), .val (.int cn), .val (.int (Int32.ofNat 3)), .val (.int b), .val (.int st), .val (.int o0), .val (.int o1), .val (.int o2), .val (.int o3), .val (.int (e 0)), .val (.int (e 1)), .val (.int (e 2)), .val (.int (e 3)), .val (.int (e 0)), .unset, .unset, .unset, .unset, .unset, .unset, .unset] d0_108 rfl ?_
    refine K.iload d0_110 rfl ?_
    refine K.iconst (2 : Int32) d0_112 rfl ?_
    refine K.ic_lt d0_113 (fun u => absurd u (by decide)) (fun _ => ?_)
    refine K.iload d0_116 rfl ?_
    refine K.iload d0_118 rfl ?_
    refine K.callS [.int (e 0), .int (e 1)] [] 0 0 0 d0_120 (wd3 hw) (wd4 hw) (wd5 hw) (wd6 hw) (by decide) (rmMN l Z a0 hw (e 0) (e 1) h n0) rfl (lenOf pd_5 rfl) rfl (Nat.le_of_eq rfl) (by decide) (by decide) rfl rfl (by decide) (by decide) (goP ?_)
    refine K.istore #[.val (.int sh), .val (.int ba), .val (.int fi), .val (.int qu), .val (.int cn), .val (.int (Int32.ofNat 3)), .val (.int b), .val (.int st), .val (.int o0), .val (.int o1), .val (.int o2), .val (.int o3), .val (.int (e 0)), .val (.int (e 1)), .val (.int (e 2)), .val (.int (e 3)), .val (.int (own_mn (e 0) (e 1))), .unset, .unset, .unset, .unset, .unset, .unset, .unset] d0_123 rfl ?_
    refine K.iload d0_125 rfl ?_
    refine K.iconst (3 : Int32) d0_127 rfl ?_
    refine K.ic_lt d0_128 (fun u => absurd u (by decide)) (fun _ => ?_)
    refine K.iload d0_131 rfl ?_
    refine K.iload d0_133 rfl ?_
    refine K.callS [.int (own_mn (e 0) (e 1)), .int (e 2)] [] 0 0 0 d0_135 (wd3 hw) (wd4 hw) (wd5 hw) (wd6 hw) (by decide) (rmMN l Z a0 hw (own_mn (e 0) (e 1)) (e 2) h n0) rfl (lenOf pd_5 rfl) rfl (Nat.le_of_eq rfl) (by decide) (by decide) rfl rfl (by decide) (by decide) (goP ?_)
    refine K.istore #[.val (.int sh), .val (.int ba), .val (.int fi), .val (.int qu), .val (.int cn), .val (.int (Int32.ofNat 3)), .val (.int b), .val (.int st), .val (.int o0), .val (.int o1), .val (.int o2), .val (.int o3), .val (.int (e 0)), .val (.int (e 1)), .val (.int (e 2)), .val (.int (e 3)), .val (.int (own_mn (own_mn (e 0) (e 1)) (e 2))), .unset, .unset, .unset, .unset, .unset, .unset, .unset] d0_138 rfl ?_
    refine K.iload d0_140 rfl ?_
    refine K.iconst (4 : Int32) d0_142 rfl ?_
    refine K.ic_lt d0_143 (fun _ => ?_) (fun u => absurd (by decide) u)
    refine K.iload d0_155 rfl ?_
    refine K.iconst (1 : Int32) d0_157 rfl ?_
    refine K.ic_ne d0_158 (fun u => absurd u (by decide)) (fun _ => ?_)
    refine K.iload d0_166 rfl ?_
    refine K.iconst (2 : Int32) d0_168 rfl ?_
    refine K.ic_ne d0_169 (fun u => absurd u (by decide)) (fun _ => ?_)
    refine K.iload d0_177 rfl ?_
    refine K.iconst (3 : Int32) d0_179 rfl ?_
    refine K.ic_ne d0_180 (fun _ => ?_) (fun u => absurd (by decide) u)
    refine K.iload d0_183 rfl ?_
    refine K.goto d0_185 ?_
    refine K.istore #[.val (.int sh), .val (.int ba), .val (.int fi), .val (.int qu), .val (.int cn), .val (.int (Int32.ofNat 3)), .val (.int b), .val (.int st), .val (.int o0), .val (.int o1), .val (.int o2), .val (.int o3), .val (.int (e 0)), .val (.int (e 1)), .val (.int (e 2)), .val (.int (e 3)), .val (.int (own_mn (own_mn (e 0) (e 1)) (e 2))), .val (.int (e 2)), .unset, .unset, .unset, .unset, .unset, .unset] d0_190 rfl ?_
    refine K.iloadN d0_192 rfl ?_
    refine K.iload d0_193 rfl ?_
    have hl0 : 0 ≤ (own_mn (own_mn (e 0) (e 1)) (e 2)).toInt := (own_mn_nn (own_mn_nn (by omega) (by omega)) (by omega))
    have hl1 : (own_mn (own_mn (e 0) (e 1)) (e 2)).toInt ≤ 2147483640 := (own_mn_lx (own_mn_lx (by omega)))
    as_aux_lemma =>
      refine cut (P := ∀ dd : Int32, ¬ dd < own_mn (own_mn (e 0) (e 1)) (e 2) → Wk E h 0 0 209 #[.val (.int sh), .val (.int ba), .val (.int fi), .val (.int qu), .val (.int cn), .val (.int (Int32.ofNat 3)), .val (.int b), .val (.int st), .val (.int o0), .val (.int o1), .val (.int o2), .val (.int o3), .val (.int (e 0)), .val (.int (e 1)), .val (.int (e 2)), .val (.int (e 3)), .val (.int (own_mn (own_mn (e 0) (e 1)) (e 2))), .val (.int (e 2)), .unset, .unset, .unset, .unset, .unset, .unset] [.int dd]) (fun J859 => ?_) ?_
      · refine K.ic_ge d0_195 (fun hc860 => ?_) (fun hc860 => ?_)
        · refine K.iload d0_198 rfl ?_
          refine K.iloadN d0_200 rfl ?_
          refine K.bipush (7 : Int32) d0_201 rfl ?_
          refine K.iand d0_203 ?_
          refine K.iadd d0_204 ?_
          refine K.goto d0_205 ?_
          exact J859 _ (own_dd hl0 hl1)
        · refine K.iloadN d0_208 rfl ?_
          exact J859 _ hc860
      intro dd hdd
      refine K.istore #[.val (.int sh), .val (.int ba), .val (.int fi), .val (.int qu), .val (.int cn), .val (.int (Int32.ofNat 3)), .val (.int b), .val (.int st), .val (.int o0), .val (.int o1), .val (.int o2), .val (.int o3), .val (.int (e 0)), .val (.int (e 1)), .val (.int (e 2)), .val (.int (e 3)), .val (.int (own_mn (own_mn (e 0) (e 1)) (e 2))), .val (.int (e 2)), .val (.int dd), .unset, .unset, .unset, .unset, .unset] d0_209 rfl ?_
      refine K.iload d0_211 rfl ?_
      refine K.iconst (3 : Int32) d0_213 rfl ?_
      refine K.iadd d0_214 ?_
      rw [elv]
      as_aux_lemma =>
        refine K.istore #[.val (.int sh), .val (.int ba), .val (.int fi), .val (.int qu), .val (.int cn), .val (.int (Int32.ofNat 3)), .val (.int b), .val (.int st), .val (.int o0), .val (.int o1), .val (.int o2), .val (.int o3), .val (.int (e 0)), .val (.int (e 1)), .val (.int (e 2)), .val (.int (e 3)), .val (.int (own_mn (own_mn (e 0) (e 1)) (e 2))), .val (.int (e 2)), .val (.int dd), .val (.int lv), .unset, .unset, .unset, .unset] d0_215 rfl ?_
        refine K.newO 1 8 d0_217 (wd7 hw) (wd8 hw) (wd9 hw) rfl rfl (by decide) (by decide) (fun h861 be ha862 g863 X864 A865 D866 => ?_)
        have lt_ek_be : ek < be := by rw [ha862]; exact E8.lt
        have lt_kd_be : kd < be := by rw [ha862]; exact I7.lt
        have S867 := S1.ext X864
        have S868 := S2.ext X864
        have S869 := S3.ext X864
        have S870 := S4.ext X864
        have S871 := S5.ext X864
        have S872 := S6.ext X864
        have I873 := I7.ext X864
        have E874 := E8.ext X864
        have F875 := F9.ext X864
        have F876 : Fld Z h861 be "com/example/horatius/horatius/core/PageSummary" "nodes" "I" (.int (0 : Int32)) := D866 (Or.inl (wd21 hw)) (ty := .int) (by decide)
        have F877 : Fld Z h861 be "com/example/horatius/horatius/core/PageSummary" "leastDepth" "I" (.int (0 : Int32)) := D866 (Or.inl (wd23 hw)) (ty := .int) (by decide)
        have F878 : Fld Z h861 be "com/example/horatius/horatius/core/PageSummary" "lastKind" "Lcom/example/horatius/horatius/core/NodeKind;" .null := D866 (Or.inl (wd31 hw)) (ty := (.object "com/example/horatius/horatius/core/NodeKind")) (by decide)
        have F879 : Fld Z h861 be "com/example/horatius/horatius/core/PageSummary" "lastDepth" "I" (.int (0 : Int32)) := D866 (Or.inl (wd33 hw)) (ty := .int) (by decide)
        have F880 : Fld Z h861 be "com/example/horatius/horatius/core/PageSummary" "topElements" "I" (.int (0 : Int32)) := D866 (Or.inl (wd35 hw)) (ty := .int) (by decide)
        have F881 : Fld Z h861 be "com/example/horatius/horatius/core/PageSummary" "typedAttributes" "I" (.int (0 : Int32)) := D866 (Or.inl (wd37 hw)) (ty := .int) (by decide)
        have F882 : Fld Z h861 be "com/example/horatius/horatius/core/PageSummary" "asides" "[I" .null := D866 (Or.inl (wd48 hw)) (ty := (.array .int)) (by decide)
        have F883 : Fld Z h861 be "com/example/horatius/horatius/core/PageSummary" "asideCount" "I" (.int (0 : Int32)) := D866 (Or.inl (wd50 hw)) (ty := .int) (by decide)
        refine K.dup d0_220 rfl ?_
        refine K.iconst (1 : Int32) d0_221 rfl ?_
        refine K.iload d0_222 rfl ?_
        refine K.getS d0_224 (wd10 hw) S867 ?_
        refine K.iload d0_227 rfl ?_
        refine K.iconst (0 : Int32) d0_229 rfl ?_
        refine K.iconst (0 : Int32) d0_230 rfl ?_
        refine K.iconst (0 : Int32) d0_231 rfl ?_
        refine K.newPX 0 2 8 d0_232 (wd13 hw) (by decide) (by decide) (by decide) rfl rfl (by decide) (by decide) (fun h885 a884 ha886 g887 X888 A889 E890 => ?_)
        have lt_be_a884 : be < a884 := by rw [ha886]; exact A865.lt
        have lt_ek_a884 : ek < a884 := by rw [ha886]; exact E874.lt
        have lt_kd_a884 : kd < a884 := by rw [ha886]; exact I873.lt
        have S891 := S867.ext X888
        have S892 := S868.ext X888
        have S893 := S869.ext X888
        have S894 := S870.ext X888
        have S895 := S871.ext X888
        have S896 := S872.ext X888
        have I897 := I873.ext X888
        have E898 := E874.ext X888
        have F899 := F875.ext X888
        have E900 := A865.ext X888
        have F901 := F876.ext X888
        have F902 := F877.ext X888
        have F903 := F878.ext X888
        have F904 := F879.ext X888
        have F905 := F880.ext X888
        have F906 := F881.ext X888
        have F907 := F882.ext X888
        have F908 := F883.ext X888
        refine K.callI (a := be) [.int (1 : Int32), .int lv, .ref ek, .int lv, .int (0 : Int32), .int (0 : Int32), .ref a884] [.ref be] 1 3 8 d0_234 rfl rfl (wd14 hw) (wd15 hw) (wd9 hw) (wd16 hw) (by decide) (rmSI l Z a0 hw be a884 ek (1 : Int32) lv lv h885 n0 E900 g863 F901 F902 F903 F904 F905 F906 F907 F908 A889 E890 E898 (Nat.ne_of_gt lt_be_a884) (by decide) (own_nn0 (by omega)) (own_irr _)) rfl (lenOf pd_22 rfl) rfl (Nat.le_of_eq rfl) (by decide) (by decide) rfl rfl (by decide) (by decide) (goU fun h909 q910 => ?_)
        obtain ⟨c911, g912, e913, K914, G915, A916⟩ := q910
        have lt_a884_c911 : a884 < c911 := Nat.lt_of_lt_of_le A889.lt g912
        have lt_be_c911 : be < c911 := Nat.lt_of_lt_of_le E900.lt g912
        have lt_ek_c911 : ek < c911 := Nat.lt_of_lt_of_le E898.lt g912
        have lt_kd_c911 : kd < c911 := Nat.lt_of_lt_of_le I897.lt g912
        have S917 := staK S891 K914 (allS (plE E900) all0)
        have S918 := staK S892 K914 (allS (plE E900) all0)
        have S919 := staK S893 K914 (allS (plE E900) all0)
        have S920 := staK S894 K914 (allS (plE E900) all0)
        have S921 := staK S895 K914 (allS (plE E900) all0)
        have S922 := staK S896 K914 (allS (plE E900) all0)
        have I923 := I897.keep K914 (ninS (Nat.ne_of_lt lt_kd_be) nin0)
        have E924 := E898.keep K914
        have F925 := F899.keep K914 (ninS (Nat.ne_of_lt lt_ek_be) nin0)
        have E926 := E900.keep K914
        have I927 := A889.keep K914 (ninS (Nat.ne_of_gt lt_be_a884) nin0)
        have E928 := E890.keep K914
        obtain ⟨F929, F930, F931, F932, F933, F934, F935, F936⟩ := G915
        refine K.astore #[.val (.int sh), .val (.int ba), .val (.int fi), .val (.int qu), .val (.int cn), .val (.int (Int32.ofNat 3)), .val (.int b), .val (.int st), .val (.int o0), .val (.int o1), .val (.int o2), .val (.int o3), .val (.int (e 0)), .val (.int (e 1)), .val (.int (e 2)), .val (.int (e 3)), .val (.int (own_mn (own_mn (e 0) (e 1)) (e 2))), .val (.int (e 2)), .val (.int dd), .val (.int lv), .val (.ref be), .unset, .unset, .unset] d0_237 rfl rfl ?_
        as_aux_lemma =>
          refine K.newO 4 16 d0_239 (wd7 hw) (wd8 hw) (wd9 hw) rfl rfl (by decide) (by decide) (fun h937 su ha938 g939 X940 A941 D942 => ?_)
          have lt_a884_su : a884 < su := by rw [ha938]; exact I927.lt
          have lt_be_su : be < su := by rw [ha938]; exact E926.lt
          have lt_c911_su : c911 < su := by rw [ha938]; exact A916.lt
          have lt_ek_su : ek < su := by rw [ha938]; exact E924.lt
          have lt_kd_su : kd < su := by rw [ha938]; exact I923.lt
          have S943 := S917.ext X940
          have S944 := S918.ext X940
          have S945 := S919.ext X940
          have S946 := S920.ext X940
          have S947 := S921.ext X940
          have S948 := S922.ext X940
          have I949 := I923.ext X940
          have E950 := E924.ext X940
          have F951 := F925.ext X940
          have E952 := E926.ext X940
          have I953 := I927.ext X940
          have E954 := E928.ext X940
          have F955 := F929.ext X940
          have F956 := F930.ext X940
          have F957 := F931.ext X940
          have F958 := F932.ext X940
          have F959 := F933.ext X940
          have F960 := F934.ext X940
          have F961 := F935.ext X940
          have F962 := F936.ext X940
          have I963 := A916.ext X940
          have F964 : Fld Z h937 su "com/example/horatius/horatius/core/PageSummary" "nodes" "I" (.int (0 : Int32)) := D942 (Or.inl (wd21 hw)) (ty := .int) (by decide)
          have F965 : Fld Z h937 su "com/example/horatius/horatius/core/PageSummary" "leastDepth" "I" (.int (0 : Int32)) := D942 (Or.inl (wd23 hw)) (ty := .int) (by decide)
          have F966 : Fld Z h937 su "com/example/horatius/horatius/core/PageSummary" "lastKind" "Lcom/example/horatius/horatius/core/NodeKind;" .null := D942 (Or.inl (wd31 hw)) (ty := (.object "com/example/horatius/horatius/core/NodeKind")) (by decide)
          have F967 : Fld Z h937 su "com/example/horatius/horatius/core/PageSummary" "lastDepth" "I" (.int (0 : Int32)) := D942 (Or.inl (wd33 hw)) (ty := .int) (by decide)
          have F968 : Fld Z h937 su "com/example/horatius/horatius/core/PageSummary" "topElements" "I" (.int (0 : Int32)) := D942 (Or.inl (wd35 hw)) (ty := .int) (by decide)
          have F969 : Fld Z h937 su "com/example/horatius/horatius/core/PageSummary" "typedAttributes" "I" (.int (0 : Int32)) := D942 (Or.inl (wd37 hw)) (ty := .int) (by decide)
          have F970 : Fld Z h937 su "com/example/horatius/horatius/core/PageSummary" "asides" "[I" .null := D942 (Or.inl (wd48 hw)) (ty := (.array .int)) (by decide)
          have F971 : Fld Z h937 su "com/example/horatius/horatius/core/PageSummary" "asideCount" "I" (.int (0 : Int32)) := D942 (Or.inl (wd50 hw)) (ty := .int) (by decide)
          refine K.dup d0_242 rfl ?_
          refine K.iload d0_243 rfl ?_
          refine K.iload d0_245 rfl ?_
          refine K.getS d0_247 (wd10 hw) S943 ?_
          refine K.iload d0_250 rfl ?_
          refine K.iconst (0 : Int32) d0_252 rfl ?_
          refine K.iconst (0 : Int32) d0_253 rfl ?_
          refine K.iconst (0 : Int32) d0_254 rfl ?_
          refine K.newPX 0 5 16 d0_255 (wd13 hw) (by decide) (by decide) (by decide) rfl rfl (by decide) (by decide) (fun h973 a972 ha974 g975 X976 A977 E978 => ?_)
          have lt_a884_a972 : a884 < a972 := by rw [ha974]; exact I953.lt
          have lt_be_a972 : be < a972 := by rw [ha974]; exact E952.lt
          have lt_c911_a972 : c911 < a972 := by rw [ha974]; exact I963.lt
          have lt_ek_a972 : ek < a972 := by rw [ha974]; exact E950.lt
          have lt_kd_a972 : kd < a972 := by rw [ha974]; exact I949.lt
          have lt_su_a972 : su < a972 := by rw [ha974]; exact A941.lt
          have S979 := S943.ext X976
          have S980 := S944.ext X976
          have S981 := S945.ext X976
          have S982 := S946.ext X976
          have S983 := S947.ext X976
          have S984 := S948.ext X976
          have I985 := I949.ext X976
          have E986 := E950.ext X976
          have F987 := F951.ext X976
          have E988 := E952.ext X976
          have I989 := I953.ext X976
          have E990 := E954.ext X976
          have F991 := F955.ext X976
          have F992 := F956.ext X976
          have F993 := F957.ext X976
          have F994 := F958.ext X976
          have F995 := F959.ext X976
          have F996 := F960.ext X976
          have F997 := F961.ext X976
          have F998 := F962.ext X976
          have I999 := I963.ext X976
          have E1000 := A941.ext X976
          have F1001 := F964.ext X976
          have F1002 := F965.ext X976
          have F1003 := F966.ext X976
          have F1004 := F967.ext X976
          have F1005 := F968.ext X976
          have F1006 := F969.ext X976
          have F1007 := F970.ext X976
          have F1008 := F971.ext X976
          refine K.callI (a := su) [.int (Int32.ofNat 3), .int (own_mn (own_mn (e 0) (e 1)) (e 2)), .ref ek, .int (e 2), .int (0 : Int32), .int (0 : Int32), .ref a972] [.ref su] 1 6 16 d0_257 rfl rfl (wd14 hw) (wd15 hw) (wd9 hw) (wd16 hw) (by decide) (rmSI l Z a0 hw su a972 ek (Int32.ofNat 3) (own_mn (own_mn (e 0) (e 1)) (e 2)) (e 2) h973 n0 E1000 g939 F1001 F1002 F1003 F1004 F1005 F1006 F1007 F1008 A977 E978 E986 (Nat.ne_of_gt lt_su_a972) (by decide) (own_nn0 hl0) (own_mn_ly _ _)) rfl (lenOf pd_22 rfl) rfl (Nat.le_of_eq rfl) (by decide) (by decide) rfl rfl (by decide) (by decide) (goU fun h1009 q1010 => ?_)
          obtain ⟨sa, g1011, e1012, K1013, G1014, A1015⟩ := q1010
          have lt_a884_sa : a884 < sa := Nat.lt_of_lt_of_le I989.lt g1011
          have lt_a972_sa : a972 < sa := Nat.lt_of_lt_of_le A977.lt g1011
          have lt_be_sa : be < sa := Nat.lt_of_lt_of_le E988.lt g1011
          have lt_c911_sa : c911 < sa := Nat.lt_of_lt_of_le I999.lt g1011
          have lt_ek_sa : ek < sa := Nat.lt_of_lt_of_le E986.lt g1011
          have lt_kd_sa : kd < sa := Nat.lt_of_lt_of_le I985.lt g1011
          have lt_su_sa : su < sa := Nat.lt_of_lt_of_le E1000.lt g1011
          have S1016 := staK S979 K1013 (allS (plE E1000) all0)
          have S1017 := staK S980 K1013 (allS (plE E1000) all0)
          have S1018 := staK S981 K1013 (allS (plE E1000) all0)
          have S1019 := staK S982 K1013 (allS (plE E1000) all0)
          have S1020 := staK S983 K1013 (allS (plE E1000) all0)
          have S1021 := staK S984 K1013 (allS (plE E1000) all0)
          have I1022 := I985.keep K1013 (ninS (Nat.ne_of_lt lt_kd_su) nin0)
          have E1023 := E986.keep K1013
          have F1024 := F987.keep K1013 (ninS (Nat.ne_of_lt lt_ek_su) nin0)
          have E1025 := E988.keep K1013
          have I1026 := I989.keep K1013 (ninS (Nat.ne_of_lt lt_a884_su) nin0)
          have E1027 := E990.keep K1013
          have F1028 := F991.keep K1013 (ninS (Nat.ne_of_lt lt_be_su) nin0)
          have F1029 := F992.keep K1013 (ninS (Nat.ne_of_lt lt_be_su) nin0)
          have F1030 := F993.keep K1013 (ninS (Nat.ne_of_lt lt_be_su) nin0)
          have F1031 := F994.keep K1013 (ninS (Nat.ne_of_lt lt_be_su) nin0)
          have F1032 := F995.keep K1013 (ninS (Nat.ne_of_lt lt_be_su) nin0)
          have F1033 := F996.keep K1013 (ninS (Nat.ne_of_lt lt_be_su) nin0)
          have F1034 := F997.keep K1013 (ninS (Nat.ne_of_lt lt_be_su) nin0)
          have F1035 := F998.keep K1013 (ninS (Nat.ne_of_lt lt_be_su) nin0)
          have I1036 := I999.keep K1013 (ninS (Nat.ne_of_lt lt_c911_su) nin0)
          have E1037 := E1000.keep K1013
          have I1038 := A977.keep K1013 (ninS (Nat.ne_of_gt lt_su_a972) nin0)
          have E1039 := E978.keep K1013
          obtain ⟨F1040, F1041, F1042, F1043, F1044, F1045, F1046, F1047⟩ := G1014
          refine K.astore #[.val (.int sh), .val (.int ba), .val (.int fi), .val (.int qu), .val (.int cn), .val (.int (Int32.ofNat 3)), .val (.int b), .val (.int st), .val (.int o0), .val (.int o1), .val (.int o2), .val (.int o3), .val (.int (e 0)), .val (.int (e 1)), .val (.int (e 2)), .val (.int (e 3)), .val (.int (own_mn (own_mn (e 0) (e 1)) (e 2))), .val (.int (e 2)), .val (.int dd), .val (.int lv), .val (.ref be), .val (.ref su), .unset, .unset] d0_260 rfl rfl ?_
          refine K.newO 7 35 d0_262 (wd51 hw) (wd52 hw) (wd53 hw) rfl rfl (by decide) (by decide) (fun h1048 pg ha1049 g1050 X1051 A1052 D1053 => ?_)
          have lt_a884_pg : a884 < pg := by rw [ha1049]; exact I1026.lt
          have lt_a972_pg : a972 < pg := by rw [ha1049]; exact I1038.lt
          have lt_be_pg : be < pg := by rw [ha1049]; exact E1025.lt
          have lt_c911_pg : c911 < pg := by rw [ha1049]; exact I1036.lt
          have lt_ek_pg : ek < pg := by rw [ha1049]; exact E1023.lt
          have lt_kd_pg : kd < pg := by rw [ha1049]; exact I1022.lt
          have lt_sa_pg : sa < pg := by rw [ha1049]; exact A1015.lt
          have lt_su_pg : su < pg := by rw [ha1049]; exact E1037.lt
          have S1054 := S1016.ext X1051
          have S1055 := S1017.ext X1051
          have S1056 := S1018.ext X1051
          have S1057 := S1019.ext X1051
          have S1058 := S1020.ext X1051
          have S1059 := S1021.ext X1051
          have I1060 := I1022.ext X1051
          have E1061 := E1023.ext X1051
          have F1062 := F1024.ext X1051
          have E1063 := E1025.ext X1051
          have I1064 := I1026.ext X1051
          have E1065 := E1027.ext X1051
          have F1066 := F1028.ext X1051
          have F1067 := F1029.ext X1051
          have F1068 := F1030.ext X1051
          have F1069 := F1031.ext X1051
          have F1070 := F1032.ext X1051
          have F1071 := F1033.ext X1051
          have F1072 := F1034.ext X1051
          have F1073 := F1035.ext X1051
          have I1074 := I1036.ext X1051
          have E1075 := E1037.ext X1051
          have I1076 := I1038.ext X1051
          have E1077 := E1039.ext X1051
          have F1078 := F1040.ext X1051
          have F1079 := F1041.ext X1051
          have F1080 := F1042.ext X1051
          have F1081 := F1043.ext X1051
          have F1082 := F1044.ext X1051
          have F1083 := F1045.ext X1051
          have F1084 := F1046.ext X1051
          have F1085 := F1047.ext X1051
          have I1086 := A1015.ext X1051
          have F1087 : Fld Z h1048 pg "com/example/horatius/horatius/core/OutlinePage" "gathered" "Lcom/example/horatius/horatius/core/PageSummary;" .null := D1053 (Or.inr (wd63 hw)) (ty := (.object "com/example/horatius/horatius/core/PageSummary")) (by decide)
          have F1088 : Fld Z h1048 pg "com/example/horatius/horatius/core/OutlinePage" "open" "[I" .null := D1053 (Or.inl (wd65 hw)) (ty := (.array .int)) (by decide)
          have F1089 : Fld Z h1048 pg "com/example/horatius/horatius/core/OutlinePage" "index" "I" (.int (0 : Int32)) := D1053 (Or.inr (wd67 hw)) (ty := .int) (by decide)
          have F1090 : Fld Z h1048 pg "com/example/horatius/horatius/core/OutlinePage" "start" "I" (.int (0 : Int32)) := D1053 (Or.inr (wd69 hw)) (ty := .int) (by decide)
          have F1091 : Fld Z h1048 pg "com/example/horatius/horatius/core/OutlinePage" "summary" "Lcom/example/horatius/horatius/core/PageSummary;" .null := D1053 (Or.inr (wd71 hw)) (ty := (.object "com/example/horatius/horatius/core/PageSummary")) (by decide)
          have F1092 : Fld Z h1048 pg "com/example/horatius/horatius/core/OutlinePage" "nameCount" "I" (.int (0 : Int32)) := D1053 (Or.inr (wd73 hw)) (ty := .int) (by decide)
          have F1093 : Fld Z h1048 pg "com/example/horatius/horatius/core/OutlinePage" "previousKind" "Lcom/example/horatius/horatius/core/NodeKind;" .null := D1053 (Or.inl (wd80 hw)) (ty := (.object "com/example/horatius/horatius/core/NodeKind")) (by decide)
          have F1094 : Fld Z h1048 pg "com/example/horatius/horatius/core/OutlinePage" "previousDepth" "I" (.int (0 : Int32)) := D1053 (Or.inl (wd87 hw)) (ty := .int) (by decide)
          have F1095 : Fld Z h1048 pg "com/example/horatius/horatius/core/OutlinePage" "openBefore" "I" (.int (0 : Int32)) := D1053 (Or.inl (wd90 hw)) (ty := .int) (by decide)
          have F1096 : Fld Z h1048 pg "com/example/horatius/horatius/core/OutlinePage" "kinds" "[B" .null := D1053 (Or.inr (wd98 hw)) (ty := (.array .byte)) (by decide)
          have F1097 : Fld Z h1048 pg "com/example/horatius/horatius/core/OutlinePage" "names" "[I" .null := D1053 (Or.inr (wd100 hw)) (ty := (.array .int)) (by decide)
          have F1098 : Fld Z h1048 pg "com/example/horatius/horatius/core/OutlinePage" "depths" "[I" .null := D1053 (Or.inr (wd102 hw)) (ty := (.array .int)) (by decide)
          have F1099 : Fld Z h1048 pg "com/example/horatius/horatius/core/OutlinePage" "parents" "[I" .null := D1053 (Or.inr (wd104 hw)) (ty := (.array .int)) (by decide)
          have F1100 : Fld Z h1048 pg "com/example/horatius/horatius/core/OutlinePage" "subtreeEnds" "[I" .null := D1053 (Or.inr (wd106 hw)) (ty := (.array .int)) (by decide)
          have F1101 : Fld Z h1048 pg "com/example/horatius/horatius/core/OutlinePage" "size" "I" (.int (0 : Int32)) := D1053 (Or.inl (wd121 hw)) (ty := .int) (by decide)
          have F1102 : Fld Z h1048 pg "com/example/horatius/horatius/core/OutlinePage" "openCount" "I" (.int (0 : Int32)) := D1053 (Or.inl (wd123 hw)) (ty := .int) (by decide)
          have F1103 : Fld Z h1048 pg "com/example/horatius/horatius/core/OutlinePage" "ended" "Z" (.int (0 : Int32)) := D1053 (Or.inl (wd142 hw)) (ty := .boolean) (by decide)
          have F1104 : Fld Z h1048 pg "com/example/horatius/horatius/core/OutlinePage" "shallowestFromStart" "[I" .null := D1053 (Or.inl (wd208 hw)) (ty := (.array .int)) (by decide)
          have F1105 : Fld Z h1048 pg "com/example/horatius/horatius/core/OutlinePage" "shallowestToEnd" "[I" .null := D1053 (Or.inl (wd210 hw)) (ty := (.array .int)) (by decide)
          as_aux_lemma =>
            refine K.dup d0_265 rfl ?_
            refine K.iconst (1 : Int32) d0_266 rfl ?_
            refine K.iload d0_267 rfl ?_
            refine K.aload d0_269 rfl rfl ?_
            refine K.aload d0_271 rfl rfl ?_
            refine K.iconst (1 : Int32) d0_273 rfl ?_
            refine K.callI (a := pg) [.int (1 : Int32), .int st, .ref su, .ref be, .int (1 : Int32)] [.ref pg] 1 15 79 d0_274 rfl rfl (wd54 hw) (wd55 hw) (wd53 hw) (wd56 hw) (by decide) (rmOI l Z a0 hw pg su be ek st lv 3 h1048 n0 A1052 g1050 F1090 F1091 F1092 F1096 F1097 F1098 F1099 F1100 F1087 F1101 F1093 F1094 F1095 F1088 F1102 F1104 F1105 F1103 F1089 E1075 E1063 F1078 F1068 F1069 S1054 (Nat.ne_of_lt lt_su_pg) (Nat.ne_of_lt lt_be_pg) (by decide)) rfl (lenOf pd_23 rfl) rfl (Nat.le_of_eq rfl) (by decide) (by decide) rfl rfl (by decide) (by decide) (goU fun h1106 q1107 => ?_)
            obtain ⟨ki, na, de, pa, sb, ga, ag, op, ⟨ch_pg_ga, ch_ga_ag, ch_ag_op, ch_op_ki, ch_ki_na, ch_na_de, ch_de_pa, ch_pa_sb⟩, K1108, E1109, P1110, G1111, A1112, A1113, A1114, A1115, A1116, A1117, A1118⟩ := q1107
            have S1119 := staK S1054 K1108 (allS (plE A1052) all0)
            have S1120 := staK S1055 K1108 (allS (plE A1052) all0)
            have S1121 := staK S1056 K1108 (allS (plE A1052) all0)
            have S1122 := staK S1057 K1108 (allS (plE A1052) all0)
            have S1123 := staK S1058 K1108 (allS (plE A1052) all0)
            have S1124 := staK S1059 K1108 (allS (plE A1052) all0)
            have I1125 := I1060.keep K1108 (ninS (Nat.ne_of_lt lt_kd_pg) nin0)
            have E1126 := E1061.keep K1108
            have F1127 := F1062.keep K1108 (ninS (Nat.ne_of_lt lt_ek_pg) nin0)
            have E1128 := E1063.keep K1108
            have I1129 := I1064.keep K1108 (ninS (Nat.ne_of_lt lt_a884_pg) nin0)
            have E1130 := E1065.keep K1108
            have F1131 := F1066.keep K1108 (ninS (Nat.ne_of_lt lt_be_pg) nin0)
            have F1132 := F1067.keep K1108 (ninS (Nat.ne_of_lt lt_be_pg) nin0)
            have F1133 := F1068.keep K1108 (ninS (Nat.ne_of_lt lt_be_pg) nin0)
            have F1134 := F1069.keep K1108 (ninS (Nat.ne_of_lt lt_be_pg) nin0)
            have F1135 := F1070.keep K1108 (ninS (Nat.ne_of_lt lt_be_pg) nin0)
            have F1136 := F1071.keep K1108 (ninS (Nat.ne_of_lt lt_be_pg) nin0)
            have F1137 := F1072.keep K1108 (ninS (Nat.ne_of_lt lt_be_pg) nin0)
            have F1138 := F1073.keep K1108 (ninS (Nat.ne_of_lt lt_be_pg) nin0)
            have I1139 := I1074.keep K1108 (ninS (Nat.ne_of_lt lt_c911_pg) nin0)
            have E1140 := E1075.keep K1108
            have I1141 := I1076.keep K1108 (ninS (Nat.ne_of_lt lt_a972_pg) nin0)
            have E1142 := E1077.keep K1108
            have F1143 := F1078.keep K1108 (ninS (Nat.ne_of_lt lt_su_pg) nin0)
            have F1144 := F1079.keep K1108 (ninS (Nat.ne_of_lt lt_su_pg) nin0)
            have F1145 := F1080.keep K1108 (ninS (Nat.ne_of_lt lt_su_pg) nin0)
            have F1146 := F1081.keep K1108 (ninS (Nat.ne_of_lt lt_su_pg) nin0)
            have F1147 := F1082.keep K1108 (ninS (Nat.ne_of_lt lt_su_pg) nin0)
            have F1148 := F1083.keep K1108 (ninS (Nat.ne_of_lt lt_su_pg) nin0)
            have F1149 := F1084.keep K1108 (ninS (Nat.ne_of_lt lt_su_pg) nin0)
            have F1150 := F1085.keep K1108 (ninS (Nat.ne_of_lt lt_su_pg) nin0)
            have I1151 := I1086.keep K1108 (ninS (Nat.ne_of_lt lt_sa_pg) nin0)
            have E1152 := A1052.keep K1108
            have PO : Od ek kd su sa pg ga ag op ki na de pa sb := ⟨⟨lt_ek_pg, lt_kd_pg, lt_su_pg, lt_sa_pg⟩, ch_pg_ga, ch_ga_ag, ch_ag_op, ch_op_ki, ch_ki_na, ch_na_de, ch_de_pa, ch_pa_sb⟩
            have gpg := g1050
            obtain ⟨⟨od_ek_pg, od_kd_pg, od_su_pg, od_sa_pg⟩, od_pg_ga, od_ga_ag, od_ag_op, od_op_ki, od_ki_na, od_na_de, od_de_pa, od_pa_sb⟩ := id PO
            have od_pg_ag := Nat.lt_trans od_pg_ga od_ga_ag
            have od_pg_op := Nat.lt_trans od_pg_ag od_ag_op
            have od_pg_ki := Nat.lt_trans od_pg_op od_op_ki
            have od_pg_na := Nat.lt_trans od_pg_ki od_ki_na
            have od_pg_de := Nat.lt_trans od_pg_na od_na_de
            have od_pg_pa := Nat.lt_trans od_pg_de od_de_pa
            have od_pg_sb := Nat.lt_trans od_pg_pa od_pa_sb
            have od_ga_op := Nat.lt_trans od_ga_ag od_ag_op
            have od_ga_ki := Nat.lt_trans od_ga_op od_op_ki
            have od_ga_na := Nat.lt_trans od_ga_ki od_ki_na
            have od_ga_de := Nat.lt_trans od_ga_na od_na_de
            have od_ga_pa := Nat.lt_trans od_ga_de od_de_pa
            have od_ga_sb := Nat.lt_trans od_ga_pa od_pa_sb
            have od_ag_ki := Nat.lt_trans od_ag_op od_op_ki
            have od_ag_na := Nat.lt_trans od_ag_ki od_ki_na
            have od_ag_de := Nat.lt_trans od_ag_na od_na_de
            have od_ag_pa := Nat.lt_trans od_ag_de od_de_pa
            have od_ag_sb := Nat.lt_trans od_ag_pa od_pa_sb
            have od_op_na := Nat.lt_trans od_op_ki od_ki_na
            have od_op_de := Nat.lt_trans od_op_na od_na_de
            have od_op_pa := Nat.lt_trans od_op_de od_de_pa
            have od_op_sb := Nat.lt_trans od_op_pa od_pa_sb
            have od_ki_de := Nat.lt_trans od_ki_na od_na_de
            have od_ki_pa := Nat.lt_trans od_ki_de od_de_pa
            have od_ki_sb := Nat.lt_trans od_ki_pa od_pa_sb
            have od_na_pa := Nat.lt_trans od_na_de od_de_pa
            have od_na_sb := Nat.lt_trans od_na_pa od_pa_sb
            have od_de_sb := Nat.lt_trans od_de_pa od_pa_sb
            have od_ek_ga := Nat.lt_trans od_ek_pg od_pg_ga
            have od_ek_ag := Nat.lt_trans od_ek_pg od_pg_ag
            have od_ek_op := Nat.lt_trans od_ek_pg od_pg_op
            have od_ek_ki := Nat.lt_trans od_ek_pg od_pg_ki
            have od_ek_na := Nat.lt_trans od_ek_pg od_pg_na
            have od_ek_de := Nat.lt_trans od_ek_pg od_pg_de
            have od_ek_pa := Nat.lt_trans od_ek_pg od_pg_pa
            have od_ek_sb := Nat.lt_trans od_ek_pg od_pg_sb
            have od_kd_ga := Nat.lt_trans od_kd_pg od_pg_ga
            have od_kd_ag := Nat.lt_trans od_kd_pg od_pg_ag
            have od_kd_op := Nat.lt_trans od_kd_pg od_pg_op
            have od_kd_ki := Nat.lt_trans od_kd_pg od_pg_ki
            have od_kd_na := Nat.lt_trans od_kd_pg od_pg_na
            have od_kd_de := Nat.lt_trans od_kd_pg od_pg_de
            have od_kd_pa := Nat.lt_trans od_kd_pg od_pg_pa
            have od_kd_sb := Nat.lt_trans od_kd_pg od_pg_sb
            have od_su_ga := Nat.lt_trans od_su_pg od_pg_ga
            have od_su_ag := Nat.lt_trans od_su_pg od_pg_ag
            have od_su_op := Nat.lt_trans od_su_pg od_pg_op
            have od_su_ki := Nat.lt_trans od_su_pg od_pg_ki
            have od_su_na := Nat.lt_trans od_su_pg od_pg_na
            have od_su_de := Nat.lt_trans od_su_pg od_pg_de
            have od_su_pa := Nat.lt_trans od_su_pg od_pg_pa
            have od_su_sb := Nat.lt_trans od_su_pg od_pg_sb
            have od_sa_ga := Nat.lt_trans od_sa_pg od_pg_ga
            have od_sa_ag := Nat.lt_trans od_sa_pg od_pg_ag
            have od_sa_op := Nat.lt_trans od_sa_pg od_pg_op
            have od_sa_ki := Nat.lt_trans od_sa_pg od_pg_ki
            have od_sa_na := Nat.lt_trans od_sa_pg od_pg_na
            have od_sa_de := Nat.lt_trans od_sa_pg od_pg_de
            have od_sa_pa := Nat.lt_trans od_sa_pg od_pg_pa
            have od_sa_sb := Nat.lt_trans od_sa_pg od_pg_sb
            have ge_ga := Nat.le_trans gpg (Nat.le_of_lt od_pg_ga)
            have ge_ag := Nat.le_trans gpg (Nat.le_of_lt od_pg_ag)
            have ge_op := Nat.le_trans gpg (Nat.le_of_lt od_pg_op)
            have ge_ki := Nat.le_trans gpg (Nat.le_of_lt od_pg_ki)
            have ge_na := Nat.le_trans gpg (Nat.le_of_lt od_pg_na)
            have ge_de := Nat.le_trans gpg (Nat.le_of_lt od_pg_de)
            have ge_pa := Nat.le_trans gpg (Nat.le_of_lt od_pg_pa)
            have ge_sb := Nat.le_trans gpg (Nat.le_of_lt od_pg_sb)
            obtain ⟨F1153, F1154, F1155, F1156, F1157, F1158, F1159, F1160, F1161, F1162, F1163, F1164, F1165, F1166, F1167, F1168, F1169, F1170⟩ := P1110
            obtain ⟨F1171, F1172, F1173, F1174, F1175, F1176, F1177, F1178⟩ := G1111
            have A1179 := A1116.congr (own_dzero e _)
            refine K.astore #[.val (.int sh), .val (.int ba), .val (.int fi), .val (.int qu), .val (.int cn), .val (.int (Int32.ofNat 3)), .val (.int b), .val (.int st), .val (.int o0), .val (.int o1), .val (.int o2), .val (.int o3), .val (.int (e 0)), .val (.int (e 1)), .val (.int (e 2)), .val (.int (e 3)), .val (.int (own_mn (own_mn (e 0) (e 1)) (e 2))), .val (.int (e 2)), .val (.int dd), .val (.int lv), .val (.ref be), .val (.ref su), .val (.ref pg), .unset] d0_277 rfl rfl ?_
            refine K.aload d0_279 rfl rfl ?_
            refine K.iload d0_281 rfl ?_
            refine K.iconst (0 : Int32) d0_283 rfl ?_
            refine K.iloadN d0_284 rfl ?_
            refine K.bipush (8 : Int32) d0_285 rfl ?_
            refine K.iushr d0_287 ?_
            refine K.iconst (1 : Int32) d0_288 rfl ?_
            refine K.iand d0_289 ?_
            refine cut (P := ∀ z1180 : Int32, z1180 = (if (((sh.toUInt32 >>> ((8 : Int32) &&& 31).toUInt32).toInt32) &&& (1 : Int32)) = 0 then 0 else 1) → Wk E h1106 15 79 298 #[.val (.int sh), .val (.int ba), .val (.int fi), .val (.int qu), .val (.int cn), .val (.int (Int32.ofNat 3)), .val (.int b), .val (.int st), .val (.int o0), .val (.int o1), .val (.int o2), .val (.int o3), .val (.int (e 0)), .val (.int (e 1)), .val (.int (e 2)), .val (.int (e 3)), .val (.int (own_mn (own_mn (e 0) (e 1)) (e 2))), .val (.int (e 2)), .val (.int dd), .val (.int lv), .val (.ref be), .val (.ref su), .val (.ref pg), .unset] [.int z1180, .int (0 : Int32), .int (e 0), .ref pg]) (fun J1181 => ?_) ?_
            · refine K.if_eq d0_290 (fun hc1182 => ?_) (fun hc1182 => ?_)
              · refine K.iconst (0 : Int32) d0_297 rfl ?_
                exact J1181 _ (if_pos hc1182).symm
              · refine K.iconst (1 : Int32) d0_293 rfl ?_
                refine K.goto d0_294 ?_
                exact J1181 _ (if_neg hc1182).symm
            intro z1180 hz1180
            as_aux_lemma =>
              refine K.callV (a := pg) [.int (e 0), .int (0 : Int32), .int z1180] [] 0 15 79 d0_298 (wd107 hw) (wd108 hw) (wd110 hw) (wd109 hw) (wd53 hw) (wd111 hw) (by decide) (rmEL l Z a0 hw ek aq cq pq oq kd su sa pg ga ag op ki na de pa sb fd st 0 3 (.ref ek) lv (lv + 1) 0 (0 : Int32) .null (0 : Int32) e (fun _ => .int 0) (fun _ => .int 0) (fun _ => .int 0) (fun _ => .int 0) (fun _ => 0) z1180 h1106 n0 PO gpg ⟨S1119, S1120, S1121, S1122, S1123, S1124, I1125, E1126, F1127, hfd, hna, hnc, hnp⟩ E1152 E1109 ⟨F1153, F1154, F1155, F1156, F1157, F1158, F1159, F1160, F1161, F1162, F1163, F1164, F1165, F1166, F1167, F1168, F1169, F1170⟩ ⟨F1171, F1172, F1173, F1174, F1175, F1176, F1177, F1178⟩ A1114 A1115 A1179 A1117 A1118 (by decide) (by decide) (own_ne1 he0a) A1113 (own_st hs1 hs2 (by decide)) (by omega) (by rw [hlv1]; omega) (by rw [hlv1]; omega) (by rw [hlv1]; omega) (Nat.le_refl _) (fun j hj => absurd hj (by omega))) E1152 rfl (lenOf pd_24 rfl) rfl (Nat.le_of_eq rfl) (by decide) (by decide) rfl rfl (by decide) (by decide) (goU fun h1183 q1184 => ?_)
              obtain ⟨K1185, ob1, oc1, g1, hoc1, hob1, heq1, hg1, A1186, N1187, N1188, ⟨fn1194, N1189⟩, ⟨fn1195, N1190⟩, N1191, ⟨fn1196, N1192⟩, ⟨fn1197, N1193⟩⟩ := q1184
              have S1198 := staK S1119 K1185 (allS (plE E1152) (allS (plE E1109) (allS (plA A1114) (allS (plA A1115) (allS (plA A1179) (allS (plA A1117) (allS (plA A1118) (allS (plA A1113) all0))))))))
              have S1199 := staK S1120 K1185 (allS (plE E1152) (allS (plE E1109) (allS (plA A1114) (allS (plA A1115) (allS (plA A1179) (allS (plA A1117) (allS (plA A1118) (allS (plA A1113) all0))))))))
              have S1200 := staK S1121 K1185 (allS (plE E1152) (allS (plE E1109) (allS (plA A1114) (allS (plA A1115) (allS (plA A1179) (allS (plA A1117) (allS (plA A1118) (allS (plA A1113) all0))))))))
              have S1201 := staK S1122 K1185 (allS (plE E1152) (allS (plE E1109) (allS (plA A1114) (allS (plA A1115) (allS (plA A1179) (allS (plA A1117) (allS (plA A1118) (allS (plA A1113) all0))))))))
              have S1202 := staK S1123 K1185 (allS (plE E1152) (allS (plE E1109) (allS (plA A1114) (allS (plA A1115) (allS (plA A1179) (allS (plA A1117) (allS (plA A1118) (allS (plA A1113) all0))))))))
              have S1203 := staK S1124 K1185 (allS (plE E1152) (allS (plE E1109) (allS (plA A1114) (allS (plA A1115) (allS (plA A1179) (allS (plA A1117) (allS (plA A1118) (allS (plA A1113) all0))))))))
              have I1204 := I1125.keep K1185 (ninS (Nat.ne_of_lt od_kd_pg) (ninS (Nat.ne_of_lt od_kd_ga) (ninS (Nat.ne_of_lt od_kd_ki) (ninS (Nat.ne_of_lt od_kd_na) (ninS (Nat.ne_of_lt od_kd_de) (ninS (Nat.ne_of_lt od_kd_pa) (ninS (Nat.ne_of_lt od_kd_sb) (ninS (Nat.ne_of_lt od_kd_op) nin0))))))))
              have E1205 := E1126.keep K1185
              have F1206 := F1127.keep K1185 (ninS (Nat.ne_of_lt od_ek_pg) (ninS (Nat.ne_of_lt od_ek_ga) (ninS (Nat.ne_of_lt od_ek_ki) (ninS (Nat.ne_of_lt od_ek_na) (ninS (Nat.ne_of_lt od_ek_de) (ninS (Nat.ne_of_lt od_ek_pa) (ninS (Nat.ne_of_lt od_ek_sb) (ninS (Nat.ne_of_lt od_ek_op) nin0))))))))
              have E1207 := E1140.keep K1185
              have F1208 := F1143.keep K1185 (ninS (Nat.ne_of_lt od_su_pg) (ninS (Nat.ne_of_lt od_su_ga) (ninS (Nat.ne_of_lt od_su_ki) (ninS (Nat.ne_of_lt od_su_na) (ninS (Nat.ne_of_lt od_su_de) (ninS (Nat.ne_of_lt od_su_pa) (ninS (Nat.ne_of_lt od_su_sb) (ninS (Nat.ne_of_lt od_su_op) nin0))))))))
              have F1209 := F1144.keep K1185 (ninS (Nat.ne_of_lt od_su_pg) (ninS (Nat.ne_of_lt od_su_ga) (ninS (Nat.ne_of_lt od_su_ki) (ninS (Nat.ne_of_lt od_su_na) (ninS (Nat.ne_of_lt od_su_de) (ninS (Nat.ne_of_lt od_su_pa) (ninS (Nat.ne_of_lt od_su_sb) (ninS (Nat.ne_of_lt od_su_op) nin0))))))))
              have F1210 := F1145.keep K1185 (ninS (Nat.ne_of_lt od_su_pg) (ninS (Nat.ne_of_lt od_su_ga) (ninS (Nat.ne_of_lt od_su_ki) (ninS (Nat.ne_of_lt od_su_na) (ninS (Nat.ne_of_lt od_su_de) (ninS (Nat.ne_of_lt od_su_pa) (ninS (Nat.ne_of_lt od_su_sb) (ninS (Nat.ne_of_lt od_su_op) nin0))))))))
              have F1211 := F1146.keep K1185 (ninS (Nat.ne_of_lt od_su_pg) (ninS (Nat.ne_of_lt od_su_ga) (ninS (Nat.ne_of_lt od_su_ki) (ninS (Nat.ne_of_lt od_su_na) (ninS (Nat.ne_of_lt od_su_de) (ninS (Nat.ne_of_lt od_su_pa) (ninS (Nat.ne_of_lt od_su_sb) (ninS (Nat.ne_of_lt od_su_op) nin0))))))))
              have F1212 := F1147.keep K1185 (ninS (Nat.ne_of_lt od_su_pg) (ninS (Nat.ne_of_lt od_su_ga) (ninS (Nat.ne_of_lt od_su_ki) (ninS (Nat.ne_of_lt od_su_na) (ninS (Nat.ne_of_lt od_su_de) (ninS (Nat.ne_of_lt od_su_pa) (ninS (Nat.ne_of_lt od_su_sb) (ninS (Nat.ne_of_lt od_su_op) nin0))))))))
              have F1213 := F1148.keep K1185 (ninS (Nat.ne_of_lt od_su_pg) (ninS (Nat.ne_of_lt od_su_ga) (ninS (Nat.ne_of_lt od_su_ki) (ninS (Nat.ne_of_lt od_su_na) (ninS (Nat.ne_of_lt od_su_de) (ninS (Nat.ne_of_lt od_su_pa) (ninS (Nat.ne_of_lt od_su_sb) (ninS (Nat.ne_of_lt od_su_op) nin0))))))))
              have F1214 := F1149.keep K1185 (ninS (Nat.ne_of_lt od_su_pg) (ninS (Nat.ne_of_lt od_su_ga) (ninS (Nat.ne_of_lt od_su_ki) (ninS (Nat.ne_of_lt od_su_na) (ninS (Nat.ne_of_lt od_su_de) (ninS (Nat.ne_of_lt od_su_pa) (ninS (Nat.ne_of_lt od_su_sb) (ninS (Nat.ne_of_lt od_su_op) nin0))))))))
              have F1215 := F1150.keep K1185 (ninS (Nat.ne_of_lt od_su_pg) (ninS (Nat.ne_of_lt od_su_ga) (ninS (Nat.ne_of_lt od_su_ki) (ninS (Nat.ne_of_lt od_su_na) (ninS (Nat.ne_of_lt od_su_de) (ninS (Nat.ne_of_lt od_su_pa) (ninS (Nat.ne_of_lt od_su_sb) (ninS (Nat.ne_of_lt od_su_op) nin0))))))))
              have I1216 := I1151.keep K1185 (ninS (Nat.ne_of_lt od_sa_pg) (ninS (Nat.ne_of_lt od_sa_ga) (ninS (Nat.ne_of_lt od_sa_ki) (ninS (Nat.ne_of_lt od_sa_na) (ninS (Nat.ne_of_lt od_sa_de) (ninS (Nat.ne_of_lt od_sa_pa) (ninS (Nat.ne_of_lt od_sa_sb) (ninS (Nat.ne_of_lt od_sa_op) nin0))))))))
              have E1217 := E1152.keep K1185
              have E1218 := E1109.keep K1185
              have I1219 := A1112.keep K1185 (ninS (Nat.ne_of_gt od_pg_ag) (ninS (Nat.ne_of_gt od_ga_ag) (ninS (Nat.ne_of_lt od_ag_ki) (ninS (Nat.ne_of_lt od_ag_na) (ninS (Nat.ne_of_lt od_ag_de) (ninS (Nat.ne_of_lt od_ag_pa) (ninS (Nat.ne_of_lt od_ag_sb) (ninS (Nat.ne_of_lt od_ag_op) nin0))))))))
              obtain ⟨F1220, F1221, F1222, F1223, F1224, F1225, F1226, F1227, F1228, F1229, F1230, F1231, F1232, F1233, F1234, F1235, F1236, F1237⟩ := N1187
              obtain ⟨F1238, F1239, F1240, F1241, F1242, F1243, F1244, F1245⟩ := N1188
              rw [own_ls0] at F1239
              refine K.iload d0_301 rfl ?_
              refine K.iconst (2 : Int32) d0_303 rfl ?_
              refine K.ic_lt d0_304 (fun u => absurd u (by decide)) (fun _ => ?_)
              refine K.aload d0_307 rfl rfl ?_
              refine K.iload d0_309 rfl ?_
              refine K.iconst (0 : Int32) d0_311 rfl ?_
              refine K.iloadN d0_312 rfl ?_
              refine K.bipush (9 : Int32) d0_313 rfl ?_
              refine K.iushr d0_315 ?_
              refine K.iconst (1 : Int32) d0_316 rfl ?_
              refine K.iand d0_317 ?_
              refine cut (P := ∀ z1246 : Int32, z1246 = (if (((sh.toUInt32 >>> ((9 : Int32) &&& 31).toUInt32).toInt32) &&& (1 : Int32)) = 0 then 0 else 1) → Wk E h1183 15 79 326 #[.val (.int sh), .val (.int ba), .val (.int fi), .val (.int qu), .val (.int cn), .val (.int (Int32.ofNat 3)), .val (.int b), .val (.int st), .val (.int o0), .val (.int o1), .val (.int o2), .val (.int o3), .val (.int (e 0)), .val (.int (e 1)), .val (.int (e 2)), .val (.int (e 3)), .val (.int (own_mn (own_mn (e 0) (e 1)) (e 2))), .val (.int (e 2)), .val (.int dd), .val (.int lv), .val (.ref be), .val (.ref su), .val (.ref pg), .unset] [.int z1246, .int (0 : Int32), .int (e 1), .ref pg]) (fun J1247 => ?_) ?_
              · refine K.if_eq d0_318 (fun hc1248 => ?_) (fun hc1248 => ?_)
                · refine K.iconst (0 : Int32) d0_325 rfl ?_
                  exact J1247 _ (if_pos hc1248).symm
                · refine K.iconst (1 : Int32) d0_321 rfl ?_
                  refine K.goto d0_322 ?_
                  exact J1247 _ (if_neg hc1248).symm
              intro z1246 hz1246
              as_aux_lemma =>
                refine K.callV (a := pg) [.int (e 1), .int (0 : Int32), .int z1246] [] 0 15 79 d0_326 (wd107 hw) (wd108 hw) (wd110 hw) (wd109 hw) (wd53 hw) (wd111 hw) (by decide) (rmEL l Z a0 hw ek aq cq pq oq kd su sa pg ga ag op ki na de pa sb fd st 1 3 (.ref ek) (e 0) ob1 oc1 (e 0) (.ref ek) (e 0) e fn1194 fn1195 fn1196 fn1197 g1 z1246 h1183 n0 PO gpg ⟨S1198, S1199, S1200, S1201, S1202, S1203, I1204, E1205, F1206, hfd, hna, hnc, hnp⟩ E1217 E1218 ⟨F1220, F1221, F1222, F1223, F1224, F1225, F1226, F1227, F1228, F1229, F1230, F1231, F1232, F1233, F1234, F1235, F1236, F1237⟩ ⟨F1238, F1239, F1240, F1241, F1242, F1243, F1244, F1245⟩ N1189 N1190 N1191 N1192 N1193 (by decide) (by decide) (own_ne1 he1a) A1186 (own_st hs1 hs2 (by decide)) (by omega) (by omega) hob1 (by omega) hoc1 hg1) E1217 rfl (lenOf pd_24 rfl) rfl (Nat.le_of_eq rfl) (by decide) (by decide) rfl rfl (by decide) (by decide) (goU fun h1249 q1250 => ?_)
                obtain ⟨K1251, ob2, oc2, g2, hoc2, hob2, heq2, hg2, A1252, N1253, N1254, ⟨fn1260, N1255⟩, ⟨fn1261, N1256⟩, N1257, ⟨fn1262, N1258⟩, ⟨fn1263, N1259⟩⟩ := q1250
                have S1264 := staK S1198 K1251 (allS (plE E1217) (allS (plE E1218) (allS (plA N1189) (allS (plA N1190) (allS (plA N1191) (allS (plA N1192) (allS (plA N1193) (allS (plA A1186) all0))))))))
                have S1265 := staK S1199 K1251 (allS (plE E1217) (allS (plE E1218) (allS (plA N1189) (allS (plA N1190) (allS (plA N1191) (allS (plA N1192) (allS (plA N1193) (allS (plA A1186) all0))))))))
                have S1266 := staK S1200 K1251 (allS (plE E1217) (allS (plE E1218) (allS (plA N1189) (allS (plA N1190) (allS (plA N1191) (allS (plA N1192) (allS (plA N1193) (allS (plA A1186) all0))))))))
                have S1267 := staK S1201 K1251 (allS (plE E1217) (allS (plE E1218) (allS (plA N1189) (allS (plA N1190) (allS (plA N1191) (allS (plA N1192) (allS (plA N1193) (allS (plA A1186) all0))))))))
                have S1268 := staK S1202 K1251 (allS (plE E1217) (allS (plE E1218) (allS (plA N1189) (allS (plA N1190) (allS (plA N1191) (allS (plA N1192) (allS (plA N1193) (allS (plA A1186) all0))))))))
                have S1269 := staK S1203 K1251 (allS (plE E1217) (allS (plE E1218) (allS (plA N1189) (allS (plA N1190) (allS (plA N1191) (allS (plA N1192) (allS (plA N1193) (allS (plA A1186) all0))))))))
                have I1270 := I1204.keep K1251 (ninS (Nat.ne_of_lt od_kd_pg) (ninS (Nat.ne_of_lt od_kd_ga) (ninS (Nat.ne_of_lt od_kd_ki) (ninS (Nat.ne_of_lt od_kd_na) (ninS (Nat.ne_of_lt od_kd_de) (ninS (Nat.ne_of_lt od_kd_pa) (ninS (Nat.ne_of_lt od_kd_sb) (ninS (Nat.ne_of_lt od_kd_op) nin0))))))))
                have E1271 := E1205.keep K1251
                have F1272 := F1206.keep K1251 (ninS (Nat.ne_of_lt od_ek_pg) (ninS (Nat.ne_of_lt od_ek_ga) (ninS (Nat.ne_of_lt od_ek_ki) (ninS (Nat.ne_of_lt od_ek_na) (ninS (Nat.ne_of_lt od_ek_de) (ninS (Nat.ne_of_lt od_ek_pa) (ninS (Nat.ne_of_lt od_ek_sb) (ninS (Nat.ne_of_lt od_ek_op) nin0))))))))
                have E1273 := E1207.keep K1251
                have F1274 := F1208.keep K1251 (ninS (Nat.ne_of_lt od_su_pg) (ninS (Nat.ne_of_lt od_su_ga) (ninS (Nat.ne_of_lt od_su_ki) (ninS (Nat.ne_of_lt od_su_na) (ninS (Nat.ne_of_lt od_su_de) (ninS (Nat.ne_of_lt od_su_pa) (ninS (Nat.ne_of_lt od_su_sb) (ninS (Nat.ne_of_lt od_su_op) nin0))))))))
                have F1275 := F1209.keep K1251 (ninS (Nat.ne_of_lt od_su_pg) (ninS (Nat.ne_of_lt od_su_ga) (ninS (Nat.ne_of_lt od_su_ki) (ninS (Nat.ne_of_lt od_su_na) (ninS (Nat.ne_of_lt od_su_de) (ninS (Nat.ne_of_lt od_su_pa) (ninS (Nat.ne_of_lt od_su_sb) (ninS (Nat.ne_of_lt od_su_op) nin0))))))))
                have F1276 := F1210.keep K1251 (ninS (Nat.ne_of_lt od_su_pg) (ninS (Nat.ne_of_lt od_su_ga) (ninS (Nat.ne_of_lt od_su_ki) (ninS (Nat.ne_of_lt od_su_na) (ninS (Nat.ne_of_lt od_su_de) (ninS (Nat.ne_of_lt od_su_pa) (ninS (Nat.ne_of_lt od_su_sb) (ninS (Nat.ne_of_lt od_su_op) nin0))))))))
                have F1277 := F1211.keep K1251 (ninS (Nat.ne_of_lt od_su_pg) (ninS (Nat.ne_of_lt od_su_ga) (ninS (Nat.ne_of_lt od_su_ki) (ninS (Nat.ne_of_lt od_su_na) (ninS (Nat.ne_of_lt od_su_de) (ninS (Nat.ne_of_lt od_su_pa) (ninS (Nat.ne_of_lt od_su_sb) (ninS (Nat.ne_of_lt od_su_op) nin0))))))))
                have F1278 := F1212.keep K1251 (ninS (Nat.ne_of_lt od_su_pg) (ninS (Nat.ne_of_lt od_su_ga) (ninS (Nat.ne_of_lt od_su_ki) (ninS (Nat.ne_of_lt od_su_na) (ninS (Nat.ne_of_lt od_su_de) (ninS (Nat.ne_of_lt od_su_pa) (ninS (Nat.ne_of_lt od_su_sb) (ninS (Nat.ne_of_lt od_su_op) nin0))))))))
                have F1279 := F1213.keep K1251 (ninS (Nat.ne_of_lt od_su_pg) (ninS (Nat.ne_of_lt od_su_ga) (ninS (Nat.ne_of_lt od_su_ki) (ninS (Nat.ne_of_lt od_su_na) (ninS (Nat.ne_of_lt od_su_de) (ninS (Nat.ne_of_lt od_su_pa) (ninS (Nat.ne_of_lt od_su_sb) (ninS (Nat.ne_of_lt od_su_op) nin0))))))))
                have F1280 := F1214.keep K1251 (ninS (Nat.ne_of_lt od_su_pg) (ninS (Nat.ne_of_lt od_su_ga) (ninS (Nat.ne_of_lt od_su_ki) (ninS (Nat.ne_of_lt od_su_na) (ninS (Nat.ne_of_lt od_su_de) (ninS (Nat.ne_of_lt od_su_pa) (ninS (Nat.ne_of_lt od_su_sb) (ninS (Nat.ne_of_lt od_su_op) nin0))))))))
                have F1281 := F1215.keep K1251 (ninS (Nat.ne_of_lt od_su_pg) (ninS (Nat.ne_of_lt od_su_ga) (ninS (Nat.ne_of_lt od_su_ki) (ninS (Nat.ne_of_lt od_su_na) (ninS (Nat.ne_of_lt od_su_de) (ninS (Nat.ne_of_lt od_su_pa) (ninS (Nat.ne_of_lt od_su_sb) (ninS (Nat.ne_of_lt od_su_op) nin0))))))))
                have I1282 := I1216.keep K1251 (ninS (Nat.ne_of_lt od_sa_pg) (ninS (Nat.ne_of_lt od_sa_ga) (ninS (Nat.ne_of_lt od_sa_ki) (ninS (Nat.ne_of_lt od_sa_na) (ninS (Nat.ne_of_lt od_sa_de) (ninS (Nat.ne_of_lt od_sa_pa) (ninS (Nat.ne_of_lt od_sa_sb) (ninS (Nat.ne_of_lt od_sa_op) nin0))))))))
                have E1283 := E1217.keep K1251
                have E1284 := E1218.keep K1251
                have I1285 := I1219.keep K1251 (ninS (Nat.ne_of_gt od_pg_ag) (ninS (Nat.ne_of_gt od_ga_ag) (ninS (Nat.ne_of_lt od_ag_ki) (ninS (Nat.ne_of_lt od_ag_na) (ninS (Nat.ne_of_lt od_ag_de) (ninS (Nat.ne_of_lt od_ag_pa) (ninS (Nat.ne_of_lt od_ag_sb) (ninS (Nat.ne_of_lt od_ag_op) nin0))))))))
                obtain ⟨F1286, F1287, F1288, F1289, F1290, F1291, F1292, F1293, F1294, F1295, F1296, F1297, F1298, F1299, F1300, F1301, F1302, F1303⟩ := N1253
                obtain ⟨F1304, F1305, F1306, F1307, F1308, F1309, F1310, F1311⟩ := N1254
                rw [own_lsS (by decide)] at F1305
                refine K.iload d0_329 rfl ?_
                refine K.iconst (3 : Int32) d0_331 rfl ?_
                refine K.ic_lt d0_332 (fun u => absurd u (by decide)) (fun _ => ?_)
                refine K.aload d0_335 rfl rfl ?_
                refine K.iload d0_337 rfl ?_
                refine K.iconst (0 : Int32) d0_339 rfl ?_
                refine K.iloadN d0_340 rfl ?_
                refine K.bipush (10 : Int32) d0_341 rfl ?_
                refine K.iushr d0_343 ?_
                refine K.iconst (1 : Int32) d0_344 rfl ?_
                refine K.iand d0_345 ?_
                refine cut (P := ∀ z1312 : Int32, z1312 = (if (((sh.toUInt32 >>> ((10 : Int32) &&& 31).toUInt32).toInt32) &&& (1 : Int32)) = 0 then 0 else 1) → Wk E h1249 15 79 354 #[.val (.int sh), .val (.int ba), .val (.int fi), .val (.int qu), .val (.int cn), .val (.int (Int32.ofNat 3)), .val (.int b), .val (.int st), .val (.int o0), .val (.int o1), .val (.int o2), .val (.int o3), .val (.int (e 0)), .val (.int (e 1)), .val (.int (e 2)), .val (.int (e 3)), .val (.int (own_mn (own_mn (e 0) (e 1)) (e 2))), .val (.int (e 2)), .val (.int dd), .val (.int lv), .val (.ref be), .val (.ref su), .val (.ref pg), .unset] [.int z1312, .int (0 : Int32), .int (e 2), .ref pg]) (fun J1313 => ?_) ?_
                · refine K.if_eq d0_346 (fun hc1314 => ?_) (fun hc1314 => ?_)
                  · refine K.iconst (0 : Int32) d0_353 rfl ?_
                    exact J1313 _ (if_pos hc1314).symm
                  · refine K.iconst (1 : Int32) d0_349 rfl ?_
                    refine K.goto d0_350 ?_
                    exact J1313 _ (if_neg hc1314).symm
                intro z1312 hz1312
                as_aux_lemma =>
                  refine K.callV (a := pg) [.int (e 2), .int (0 : Int32), .int z1312] [] 0 15 79 d0_354 (wd107 hw) (wd108 hw) (wd110 hw) (wd109 hw) (wd53 hw) (wd111 hw) (by decide) (rmEL l Z a0 hw ek aq cq pq oq kd su sa pg ga ag op ki na de pa sb fd st 2 3 (.ref ek) (e 1) ob2 oc2 (own_mn (e 0) (e 1)) (.ref ek) (e 1) e fn1260 fn1261 fn1262 fn1263 g2 z1312 h1249 n0 PO gpg ⟨S1264, S1265, S1266, S1267, S1268, S1269, I1270, E1271, F1272, hfd, hna, hnc, hnp⟩ E1283 E1284 ⟨F1286, F1287, F1288, F1289, F1290, F1291, F1292, F1293, F1294, F1295, F1296, F1297, F1298, F1299, F1300, F1301, F1302, F1303⟩ ⟨F1304, F1305, F1306, F1307, F1308, F1309, F1310, F1311⟩ N1255 N1256 N1257 N1258 N1259 (by decide) (by decide) (own_ne1 he2a) A1252 (own_st hs1 hs2 (by decide)) (by omega) (by omega) hob2 (by omega) hoc2 hg2) E1283 rfl (lenOf pd_24 rfl) rfl (Nat.le_of_eq rfl) (by decide) (by decide) rfl rfl (by decide) (by decide) (goU fun h1315 q1316 => ?_)
                  obtain ⟨K1317, ob3, oc3, g3, hoc3, hob3, heq3, hg3, A1318, N1319, N1320, ⟨fn1326, N1321⟩, ⟨fn1327, N1322⟩, N1323, ⟨fn1328, N1324⟩, ⟨fn1329, N1325⟩⟩ := q1316
                  have S1330 := staK S1264 K1317 (allS (plE E1283) (allS (plE E1284) (allS (plA N1255) (allS (plA N1256) (allS (plA N1257) (allS (plA N1258) (allS (plA N1259) (allS (plA A1252) all0))))))))
                  have S1331 := staK S1265 K1317 (allS (plE E1283) (allS (plE E1284) (allS (plA N1255) (allS (plA N1256) (allS (plA N1257) (allS (plA N1258) (allS (plA N1259) (allS (plA A1252) all0))))))))
                  have S1332 := staK S1266 K1317 (allS (plE E1283) (allS (plE E1284) (allS (plA N1255) (allS (plA N1256) (allS (plA N1257) (allS (plA N1258) (allS (plA N1259) (allS (plA A1252) all0))))))))
                  have S1333 := staK S1267 K1317 (allS (plE E1283) (allS (plE E1284) (allS (plA N1255) (allS (plA N1256) (allS (plA N1257) (allS (plA N1258) (allS (plA N1259) (allS (plA A1252) all0))))))))
                  have S1334 := staK S1268 K1317 (allS (plE E1283) (allS (plE E1284) (allS (plA N1255) (allS (plA N1256) (allS (plA N1257) (allS (plA N1258) (allS (plA N1259) (allS (plA A1252) all0))))))))
                  have S1335 := staK S1269 K1317 (allS (plE E1283) (allS (plE E1284) (allS (plA N1255) (allS (plA N1256) (allS (plA N1257) (allS (plA N1258) (allS (plA N1259) (allS (plA A1252) all0))))))))
                  have I1336 := I1270.keep K1317 (ninS (Nat.ne_of_lt od_kd_pg) (ninS (Nat.ne_of_lt od_kd_ga) (ninS (Nat.ne_of_lt od_kd_ki) (ninS (Nat.ne_of_lt od_kd_na) (ninS (Nat.ne_of_lt od_kd_de) (ninS (Nat.ne_of_lt od_kd_pa) (ninS (Nat.ne_of_lt od_kd_sb) (ninS (Nat.ne_of_lt od_kd_op) nin0))))))))
                  have E1337 := E1271.keep K1317
                  have F1338 := F1272.keep K1317 (ninS (Nat.ne_of_lt od_ek_pg) (ninS (Nat.ne_of_lt od_ek_ga) (ninS (Nat.ne_of_lt od_ek_ki) (ninS (Nat.ne_of_lt od_ek_na) (ninS (Nat.ne_of_lt od_ek_de) (ninS (Nat.ne_of_lt od_ek_pa) (ninS (Nat.ne_of_lt od_ek_sb) (ninS (Nat.ne_of_lt od_ek_op) nin0))))))))
                  have E1339 := E1273.keep K1317
                  have F1340 := F1274.keep K1317 (ninS (Nat.ne_of_lt od_su_pg) (ninS (Nat.ne_of_lt od_su_ga) (ninS (Nat.ne_of_lt od_su_ki) (ninS (Nat.ne_of_lt od_su_na) (ninS (Nat.ne_of_lt od_su_de) (ninS (Nat.ne_of_lt od_su_pa) (ninS (Nat.ne_of_lt od_su_sb) (ninS (Nat.ne_of_lt od_su_op) nin0))))))))
                  have F1341 := F1275.keep K1317 (ninS (Nat.ne_of_lt od_su_pg) (ninS (Nat.ne_of_lt od_su_ga) (ninS (Nat.ne_of_lt od_su_ki) (ninS (Nat.ne_of_lt od_su_na) (ninS (Nat.ne_of_lt od_su_de) (ninS (Nat.ne_of_lt od_su_pa) (ninS (Nat.ne_of_lt od_su_sb) (ninS (Nat.ne_of_lt od_su_op) nin0))))))))
                  have F1342 := F1276.keep K1317 (ninS (Nat.ne_of_lt od_su_pg) (ninS (Nat.ne_of_lt od_su_ga) (ninS (Nat.ne_of_lt od_su_ki) (ninS (Nat.ne_of_lt od_su_na) (ninS (Nat.ne_of_lt od_su_de) (ninS (Nat.ne_of_lt od_su_pa) (ninS (Nat.ne_of_lt od_su_sb) (ninS (Nat.ne_of_lt od_su_op) nin0))))))))
                  have F1343 := F1277.keep K1317 (ninS (Nat.ne_of_lt od_su_pg) (ninS (Nat.ne_of_lt od_su_ga) (ninS (Nat.ne_of_lt od_su_ki) (ninS (Nat.ne_of_lt od_su_na) (ninS (Nat.ne_of_lt od_su_de) (ninS (Nat.ne_of_lt od_su_pa) (ninS (Nat.ne_of_lt od_su_sb) (ninS (Nat.ne_of_lt od_su_op) nin0))))))))
                  have F1344 := F1278.keep K1317 (ninS (Nat.ne_of_lt od_su_pg) (ninS (Nat.ne_of_lt od_su_ga) (ninS (Nat.ne_of_lt od_su_ki) (ninS (Nat.ne_of_lt od_su_na) (ninS (Nat.ne_of_lt od_su_de) (ninS (Nat.ne_of_lt od_su_pa) (ninS (Nat.ne_of_lt od_su_sb) (ninS (Nat.ne_of_lt od_su_op) nin0))))))))
                  have F1345 := F1279.keep K1317 (ninS (Nat.ne_of_lt od_su_pg) (ninS (Nat.ne_of_lt od_su_ga) (ninS (Nat.ne_of_lt od_su_ki) (ninS (Nat.ne_of_lt od_su_na) (ninS (Nat.ne_of_lt od_su_de) (ninS (Nat.ne_of_lt od_su_pa) (ninS (Nat.ne_of_lt od_su_sb) (ninS (Nat.ne_of_lt od_su_op) nin0))))))))
                  have F1346 := F1280.keep K1317 (ninS (Nat.ne_of_lt od_su_pg) (ninS (Nat.ne_of_lt od_su_ga) (ninS (Nat.ne_of_lt od_su_ki) (ninS (Nat.ne_of_lt od_su_na) (ninS (Nat.ne_of_lt od_su_de) (ninS (Nat.ne_of_lt od_su_pa) (ninS (Nat.ne_of_lt od_su_sb) (ninS (Nat.ne_of_lt od_su_op) nin0))))))))
                  have F1347 := F1281.keep K1317 (ninS (Nat.ne_of_lt od_su_pg) (ninS (Nat.ne_of_lt od_su_ga) (ninS (Nat.ne_of_lt od_su_ki) (ninS (Nat.ne_of_lt od_su_na) (ninS (Nat.ne_of_lt od_su_de) (ninS (Nat.ne_of_lt od_su_pa) (ninS (Nat.ne_of_lt od_su_sb) (ninS (Nat.ne_of_lt od_su_op) nin0))))))))
                  have I1348 := I1282.keep K1317 (ninS (Nat.ne_of_lt od_sa_pg) (ninS (Nat.ne_of_lt od_sa_ga) (ninS (Nat.ne_of_lt od_sa_ki) (ninS (Nat.ne_of_lt od_sa_na) (ninS (Nat.ne_of_lt od_sa_de) (ninS (Nat.ne_of_lt od_sa_pa) (ninS (Nat.ne_of_lt od_sa_sb) (ninS (Nat.ne_of_lt od_sa_op) nin0))))))))
                  have E1349 := E1283.keep K1317
                  have E1350 := E1284.keep K1317
                  have I1351 := I1285.keep K1317 (ninS (Nat.ne_of_gt od_pg_ag) (ninS (Nat.ne_of_gt od_ga_ag) (ninS (Nat.ne_of_lt od_ag_ki) (ninS (Nat.ne_of_lt od_ag_na) (ninS (Nat.ne_of_lt od_ag_de) (ninS (Nat.ne_of_lt od_ag_pa) (ninS (Nat.ne_of_lt od_ag_sb) (ninS (Nat.ne_of_lt od_ag_op) nin0))))))))
                  obtain ⟨F1352, F1353, F1354, F1355, F1356, F1357, F1358, F1359, F1360, F1361, F1362, F1363, F1364, F1365, F1366, F1367, F1368, F1369⟩ := N1319
                  obtain ⟨F1370, F1371, F1372, F1373, F1374, F1375, F1376, F1377⟩ := N1320
                  rw [own_lsS (by decide)] at F1371
                  refine K.iload d0_357 rfl ?_
                  refine K.iconst (4 : Int32) d0_359 rfl ?_
                  refine K.ic_lt d0_360 (fun _ => ?_) (fun u => absurd (by decide) u)
                  as_aux_lemma =>
                    refine K.aload d0_385 rfl rfl ?_
                    refine K.callV (a := pg) [] [] 0 19 111 d0_387 (wd171 hw) (wd172 hw) (wd174 hw) (wd173 hw) (wd53 hw) (wd175 hw) (by decide) (rmEN l Z a0 hw ek aq cq pq oq kd su sa pg ga ag op ki na de pa sb fd st 3 (e 2) ob3 (Int32.ofNat oc3) (own_mn (own_mn (e 0) (e 1)) (e 2)) (e 2) e h1315 n0 PO gpg ⟨S1330, S1331, S1332, S1333, S1334, S1335, I1336, E1337, F1338, hfd, hna, hnc, hnp⟩ E1349 E1350 E1339 ⟨F1352, F1353, F1354, F1355, F1356, F1357, F1358, F1359, F1360, F1361, F1362, F1363, F1364, F1365, F1366, F1367, F1368, F1369⟩ ⟨F1370, F1371, F1372, F1373, F1374, F1375, F1376, F1377⟩ ⟨F1340, F1341, F1342, F1343, F1344, F1345, F1346, F1347⟩ I1351 I1348 N1323 (by decide) (by decide) (fun j hj => hmx j (by omega))) E1349 rfl (lenOf pd_2 rfl) rfl (Nat.le_of_eq rfl) (by decide) (by decide) rfl rfl (by decide) (by decide) (goU fun h1378 q1379 => ?_)
                    obtain ⟨K1380, tt, m, w, hm1, hm4, PM, FS, FD, FT, AT_, AD_⟩ := q1379
                    have EP := E1349.keep K1380
                    refine K.iload d0_390 rfl ?_
                    refine K.iconst (4 : Int32) d0_392 rfl ?_
                    as_aux_lemma =>
                      refine cut (P := ∀ (z : Int32) (r : Nat), z = Int32.ofNat r → r < 3 → ¬ dd < e r → (∀ x, r < x → x < 3 → dd < e x) → Wk E h1378 19 111 450 #[.val (.int sh), .val (.int ba), .val (.int fi), .val (.int qu), .val (.int cn), .val (.int (Int32.ofNat 3)), .val (.int b), .val (.int st), .val (.int o0), .val (.int o1), .val (.int o2), .val (.int o3), .val (.int (e 0)), .val (.int (e 1)), .val (.int (e 2)), .val (.int (e 3)), .val (.int (own_mn (own_mn (e 0) (e 1)) (e 2))), .val (.int (e 2)), .val (.int dd), .val (.int lv), .val (.ref be), .val (.ref su), .val (.ref pg), .val (.int z)] []) (fun J1381 => ?_) ?_
                      · refine K.ic_lt d0_393 (fun _ => ?_) (fun u => absurd (by decide) u)
                        refine K.iload d0_409 rfl ?_
                        refine K.iconst (3 : Int32) d0_411 rfl ?_
                        refine K.ic_lt d0_412 (fun u => absurd u (by decide)) (fun _ => ?_)
                        refine K.iload d0_415 rfl ?_
                        refine K.iload d0_417 rfl ?_
                        refine K.ic_gt d0_419 (fun hc1382 => ?_) (fun hc1382 => ?_)
                        · refine K.iload d0_428 rfl ?_
                          refine K.iconst (2 : Int32) d0_430 rfl ?_
                          refine K.ic_lt d0_431 (fun u => absurd u (by decide)) (fun _ => ?_)
                          refine K.iload d0_434 rfl ?_
                          refine K.iload d0_436 rfl ?_
                          refine K.ic_gt d0_438 (fun hc1383 => ?_) (fun hc1383 => ?_)
                          · refine K.iconst (0 : Int32) d0_447 rfl ?_
                            refine K.istore #[.val (.int sh), .val (.int ba), .val (.int fi), .val (.int qu), .val (.int cn), .val (.int (Int32.ofNat 3)), .val (.int b), .val (.int st), .val (.int o0), .val (.int o1), .val (.int o2), .val (.int o3), .val (.int (e 0)), .val (.int (e 1)), .val (.int (e 2)), .val (.int (e 3)), .val (.int (own_mn (own_mn (e 0) (e 1)) (e 2))), .val (.int (e 2)), .val (.int dd), .val (.int lv), .val (.ref be), .val (.ref su), .val (.ref pg), .val (.int (0 : Int32))] d0_448 rfl ?_
                            exact J1381 _ 0 rfl (by decide) (fun q => hdd (own_lmn (own_lmn q hc1383) hc1382)) (fun x h1 h2 => by rcases (show x = 1 ∨ x = 2 by omega) with rfl | rfl <;> assumption)
                          · refine K.iconst (1 : Int32) d0_441 rfl ?_
                            refine K.istore #[.val (.int sh), .val (.int ba), .val (.int fi), .val (.int qu), .val (.int cn), .val (.int (Int32.ofNat 3)), .val (.int b), .val (.int st), .val (.int o0), .val (.int o1), .val (.int o2), .val (.int o3), .val (.int (e 0)), .val (.int (e 1)), .val (.int (e 2)), .val (.int (e 3)), .val (.int (own_mn (own_mn (e 0) (e 1)) (e 2))), .val (.int (e 2)), .val (.int dd), .val (.int lv), .val (.ref be), .val (.ref su), .val (.ref pg), .val (.int (1 : Int32))] d0_442 rfl ?_
                            refine K.goto d0_444 ?_
                            exact J1381 _ 1 rfl (by decide) hc1383 (fun x h1 h2 => by rcases (show x = 2 by omega) with rfl <;> assumption)
                        · refine K.iconst (2 : Int32) d0_422 rfl ?_
                          refine K.istore #[.val (.int sh), .val (.int ba), .val (.int fi), .val (.int qu), .val (.int cn), .val (.int (Int32.ofNat 3)), .val (.int b), .val (.int st), .val (.int o0), .val (.int o1), .val (.int o2), .val (.int o3), .val (.int (e 0)), .val (.int (e 1)), .val (.int (e 2)), .val (.int (e 3)), .val (.int (own_mn (own_mn (e 0) (e 1)) (e 2))), .val (.int (e 2)), .val (.int dd), .val (.int lv), .val (.ref be), .val (.ref su), .val (.ref pg), .val (.int (2 : Int32))] d0_423 rfl ?_
                          refine K.goto d0_425 ?_
                          exact J1381 _ 2 rfl (by decide) hc1382 (fun x h1 h2 => absurd h2 (by omega))
                      intro z r hz hr hz1 hz2
                      obtain ⟨jr, hjr, ejr, H⟩ := PM.find hr hz1 hz2
                      refine K.aload d0_450 rfl rfl ?_
                      refine K.iload d0_452 rfl ?_
                      refine K.callV (a := pg) [.int dd] [] 0 19 111 d0_454 (wd224 hw) (wd225 hw) (wd227 hw) (wd226 hw) (wd53 hw) (wd228 hw) (by decide) (rmLA l Z a0 hw pg de tt st dd 3 m jr e (fun j => Int32.ofNat (3 - 1 - w (m - 1 - j))) (fun j => 3 - 1 - w (m - 1 - j)) h1378 n0 FS FD FT AD_ AT_ (by decide) hm1 hm4 (fun j hj => ⟨rfl, (by show 3 - 1 - _ < 3; omega)⟩) hjr H) EP rfl (lenOf pd_16 rfl) rfl (Nat.le_of_eq rfl) (by decide) (by decide) rfl rfl (by decide) (by decide) (goP ?_)
                      refine K.iload d0_457 rfl ?_
                      refine K.iload d0_459 rfl ?_
                      refine K.iadd d0_461 ?_
                      refine K.ic_ne d0_462 (fun _ => ?_) (fun u => absurd (by show st + Int32.ofNat (3 - 1 - w (m - 1 - jr)) = st + z; rw [ejr, hz]) u)
                      refine K.iconst (1 : Int32) d0_465 rfl ?_
                      refine K.goto d0_466 ?_
                      exact K.ireturn d0_470 (Or.inr (Or.inl rfl)) rfl (by decide) (by decide) rfl
  · refine K.iload d0_106 rfl ?_
    refine K.istore #[.val (.int sh), .val (.int ba), .val (.int fi), .val (.int qu), .val (.int cn), .val (.int (Int32.ofNat 4)), .val (.int b), .val (.int st), .val (.int o0), .val (.int o1), .val (.int o2), .val (.int o3), .val (.int (e 0)), .val (.int (e 1)), .val (.int (e 2)), .val (.int (e 3)), .val (.int (e 0)), .unset, .unset, .unset, .unset, .unset, .unset, .unset] d0_108 rfl ?_
    refine K.iload d0_110 rfl ?_
    refine K.iconst (2 : Int32) d0_112 rfl ?_
    refine K.ic_lt d0_113 (fun u => absurd u (by decide)) (fun _ => ?_)
    refine K.iload d0_116 rfl ?_
    refine K.iload d0_118 rfl ?_
    refine K.callS [.int (e 0), .int (e 1)] [] 0 0 0 d0_120 (wd3 hw) (wd4 hw) (wd5 hw) (wd6 hw) (by decide) (rmMN l Z a0 hw (e 0) (e 1) h n0) rfl (lenOf pd_5 rfl) rfl (Nat.le_of_eq rfl) (by decide) (by decide) rfl rfl (by decide) (by decide) (goP ?_)
    refine K.istore #[.val (.int sh), .val (.int ba), .val (.int fi), .val (.int qu), .val (.int cn), .val (.int (Int32.ofNat 4)), .val (.int b), .val (.int st), .val (.int o0), .val (.int o1), .val (.int o2), .val (.int o3), .val (.int (e 0)), .val (.int (e 1)), .val (.int (e 2)), .val (.int (e 3)), .val (.int (own_mn (e 0) (e 1))), .unset, .unset, .unset, .unset, .unset, .unset, .unset] d0_123 rfl ?_
    refine K.iload d0_125 rfl ?_
    refine K.iconst (3 : Int32) d0_127 rfl ?_
    refine K.ic_lt d0_128 (fun u => absurd u (by decide)) (fun _ => ?_)
    refine K.iload d0_131 rfl ?_
    refine K.iload d0_133 rfl ?_
    refine K.callS [.int (own_mn (e 0) (e 1)), .int (e 2)] [] 0 0 0 d0_135 (wd3 hw) (wd4 hw) (wd5 hw) (wd6 hw) (by decide) (rmMN l Z a0 hw (own_mn (e 0) (e 1)) (e 2) h n0) rfl (lenOf pd_5 rfl) rfl (Nat.le_of_eq rfl) (by decide) (by decide) rfl rfl (by decide) (by decide) (goP ?_)
    refine K.istore #[.val (.int sh), .val (.int ba), .val (.int fi), .val (.int qu), .val (.int cn), .val (.int (Int32.ofNat 4)), .val (.int b), .val (.int st), .val (.int o0), .val (.int o1), .val (.int o2), .val (.int o3), .val (.int (e 0)), .val (.int (e 1)), .val (.int (e 2)), .val (.int (e 3)), .val (.int (own_mn (own_mn (e 0) (e 1)) (e 2))), .unset, .unset, .unset, .unset, .unset, .unset, .unset] d0_138 rfl ?_
    refine K.iload d0_140 rfl ?_
    refine K.iconst (4 : Int32) d0_142 rfl ?_
    refine K.ic_lt d0_143 (fun u => absurd u (by decide)) (fun _ => ?_)
    refine K.iload d0_146 rfl ?_
    refine K.iload d0_148 rfl ?_
    refine K.callS [.int (own_mn (own_mn (e 0) (e 1)) (e 2)), .int (e 3)] [] 0 0 0 d0_150 (wd3 hw) (wd4 hw) (wd5 hw) (wd6 hw) (by decide) (rmMN l Z a0 hw (own_mn (own_mn (e 0) (e 1)) (e 2)) (e 3) h n0) rfl (lenOf pd_5 rfl) rfl (Nat.le_of_eq rfl) (by decide) (by decide) rfl rfl (by decide) (by decide) (goP ?_)
    refine K.istore #[.val (.int sh), .val (.int ba), .val (.int fi), .val (.int qu), .val (.int cn), .val (.int (Int32.ofNat 4)), .val (.int b), .val (.int st), .val (.int o0), .val (.int o1), .val (.int o2), .val (.int o3), .val (.int (e 0)), .val (.int (e 1)), .val (.int (e 2)), .val (.int (e 3)), .val (.int (own_mn (own_mn (own_mn (e 0) (e 1)) (e 2)) (e 3))), .unset, .unset, .unset, .unset, .unset, .unset, .unset] d0_153 rfl ?_
    refine K.iload d0_155 rfl ?_
    refine K.iconst (1 : Int32) d0_157 rfl ?_
    refine K.ic_ne d0_158 (fun u => absurd u (by decide)) (fun _ => ?_)
    refine K.iload d0_166 rfl ?_
    refine K.iconst (2 : Int32) d0_168 rfl ?_
    refine K.ic_ne d0_169 (fun u => absurd u (by decide)) (fun _ => ?_)
    refine K.iload d0_177 rfl ?_
    refine K.iconst (3 : Int32) d0_179 rfl ?_
    refine K.ic_ne d0_180 (fun u => absurd u (by decide)) (fun _ => ?_)
    refine K.iload d0_188 rfl ?_
    refine K.istore #[.val (.int sh), .val (.int ba), .val (.int fi), .val (.int qu), .val (.int cn), .val (.int (Int32.ofNat 4)), .val (.int b), .val (.int st), .val (.int o0), .val (.int o1), .val (.int o2), .val (.int o3), .val (.int (e 0)), .val (.int (e 1)), .val (.int (e 2)), .val (.int (e 3)), .val (.int (own_mn (own_mn (own_mn (e 0) (e 1)) (e 2)) (e 3))), .val (.int (e 3)), .unset, .unset, .unset, .unset, .unset, .unset] d0_190 rfl ?_
    refine K.iloadN d0_192 rfl ?_
    refine K.iload d0_193 rfl ?_
    have hl0 : 0 ≤ (own_mn (own_mn (own_mn (e 0) (e 1)) (e 2)) (e 3)).toInt := (own_mn_nn (own_mn_nn (own_mn_nn (by omega) (by omega)) (by omega)) (by omega))
    have hl1 : (own_mn (own_mn (own_mn (e 0) (e 1)) (e 2)) (e 3)).toInt ≤ 2147483640 := (own_mn_lx (own_mn_lx (own_mn_lx (by omega))))
    as_aux_lemma =>
      refine cut (P := ∀ dd : Int32, ¬ dd < own_mn (own_mn (own_mn (e 0) (e 1)) (e 2)) (e 3) → Wk E h 0 0 209 #[.val (.int sh), .val (.int ba), .val (.int fi), .val (.int qu), .val (.int cn), .val (.int (Int32.ofNat 4)), .val (.int b), .val (.int st), .val (.int o0), .val (.int o1), .val (.int o2), .val (.int o3), .val (.int (e 0)), .val (.int (e 1)), .val (.int (e 2)), .val (.int (e 3)), .val (.int (own_mn (own_mn (own_mn (e 0) (e 1)) (e 2)) (e 3))), .val (.int (e 3)), .unset, .unset, .unset, .unset, .unset, .unset] [.int dd]) (fun J1384 => ?_) ?_
      · refine K.ic_ge d0_195 (fun hc1385 => ?_) (fun hc1385 => ?_)
        · refine K.iload d0_198 rfl ?_
          refine K.iloadN d0_200 rfl ?_
          refine K.bipush (7 : Int32) d0_201 rfl ?_
          refine K.iand d0_203 ?_
          refine K.iadd d0_204 ?_
          refine K.goto d0_205 ?_
          exact J1384 _ (own_dd hl0 hl1)
        · refine K.iloadN d0_208 rfl ?_
          exact J1384 _ hc1385
      intro dd hdd
      refine K.istore #[.val (.int sh), .val (.int ba), .val (.int fi), .val (.int qu), .val (.int cn), .val (.int (Int32.ofNat 4)), .val (.int b), .val (.int st), .val (.int o0), .val (.int o1), .val (.int o2), .val (.int o3), .val (.int (e 0)), .val (.int (e 1)), .val (.int (e 2)), .val (.int (e 3)), .val (.int (own_mn (own_mn (own_mn (e 0) (e 1)) (e 2)) (e 3))), .val (.int (e 3)), .val (.int dd), .unset, .unset, .unset, .unset, .unset] d0_209 rfl ?_
      refine K.iload d0_211 rfl ?_
      refine K.iconst (3 : Int32) d0_213 rfl ?_
      refine K.iadd d0_214 ?_
      rw [elv]
      as_aux_lemma =>
        refine K.istore #[.val (.int sh), .val (.int ba), .val (.int fi), .val (.int qu), .val (.int cn), .val (.int (Int32.ofNat 4)), .val (.int b), .val (.int st), .val (.int o0), .val (.int o1), .val (.int o2), .val (.int o3), .val (.int (e 0)), .val (.int (e 1)), .val (.int (e 2)), .val (.int (e 3)), .val (.int (own_mn (own_mn (own_mn (e 0) (e 1)) (e 2)) (e 3))), .val (.int (e 3)), .val (.int dd), .val (.int lv), .unset, .unset, .unset, .unset] d0_215 rfl ?_
        refine K.newO 1 8 d0_217 (wd7 hw) (wd8 hw) (wd9 hw) rfl rfl (by decide) (by decide) (fun h1386 be ha1387 g1388 X1389 A1390 D1391 => ?_)
        have lt_ek_be : ek < be := by rw [ha1387]; exact E8.lt
        have lt_kd_be : kd < be := by rw [ha1387]; exact I7.lt
        have S1392 := S1.ext X1389
        have S1393 := S2.ext X1389
        have S1394 := S3.ext X1389
        have S1395 := S4.ext X1389
        have S1396 := S5.ext X1389
        have S1397 := S6.ext X1389
        have I1398 := I7.ext X1389
        have E1399 := E8.ext X1389
        have F1400 := F9.ext X1389
        have F1401 : Fld Z h1386 be "com/example/horatius/horatius/core/PageSummary" "nodes" "I" (.int (0 : Int32)) := D1391 (Or.inl (wd21 hw)) (ty := .int) (by decide)
        have F1402 : Fld Z h1386 be "com/example/horatius/horatius/core/PageSummary" "leastDepth" "I" (.int (0 : Int32)) := D1391 (Or.inl (wd23 hw)) (ty := .int) (by decide)
        have F1403 : Fld Z h1386 be "com/example/horatius/horatius/core/PageSummary" "lastKind" "Lcom/example/horatius/horatius/core/NodeKind;" .null := D1391 (Or.inl (wd31 hw)) (ty := (.object "com/example/horatius/horatius/core/NodeKind")) (by decide)
        have F1404 : Fld Z h1386 be "com/example/horatius/horatius/core/PageSummary" "lastDepth" "I" (.int (0 : Int32)) := D1391 (Or.inl (wd33 hw)) (ty := .int) (by decide)
        have F1405 : Fld Z h1386 be "com/example/horatius/horatius/core/PageSummary" "topElements" "I" (.int (0 : Int32)) := D1391 (Or.inl (wd35 hw)) (ty := .int) (by decide)
        have F1406 : Fld Z h1386 be "com/example/horatius/horatius/core/PageSummary" "typedAttributes" "I" (.int (0 : Int32)) := D1391 (Or.inl (wd37 hw)) (ty := .int) (by decide)
        have F1407 : Fld Z h1386 be "com/example/horatius/horatius/core/PageSummary" "asides" "[I" .null := D1391 (Or.inl (wd48 hw)) (ty := (.array .int)) (by decide)
        have F1408 : Fld Z h1386 be "com/example/horatius/horatius/core/PageSummary" "asideCount" "I" (.int (0 : Int32)) := D1391 (Or.inl (wd50 hw)) (ty := .int) (by decide)
        refine K.dup d0_220 rfl ?_
        refine K.iconst (1 : Int32) d0_221 rfl ?_
        refine K.iload d0_222 rfl ?_
        refine K.getS d0_224 (wd10 hw) S1392 ?_
        refine K.iload d0_227 rfl ?_
        refine K.iconst (0 : Int32) d0_229 rfl ?_
        refine K.iconst (0 : Int32) d0_230 rfl ?_
        refine K.iconst (0 : Int32) d0_231 rfl ?_
        refine K.newPX 0 2 8 d0_232 (wd13 hw) (by decide) (by decide) (by decide) rfl rfl (by decide) (by decide) (fun h1410 a1409 ha1411 g1412 X1413 A1414 E1415 => ?_)
        have lt_be_a1409 : be < a1409 := by rw [ha1411]; exact A1390.lt
        have lt_ek_a1409 : ek < a1409 := by rw [ha1411]; exact E1399.lt
        have lt_kd_a1409 : kd < a1409 := by rw [ha1411]; exact I1398.lt
        have S1416 := S1392.ext X1413
        have S1417 := S1393.ext X1413
        have S1418 := S1394.ext X1413
        have S1419 := S1395.ext X1413
        have S1420 := S1396.ext X1413
        have S1421 := S1397.ext X1413
        have I1422 := I1398.ext X1413
        have E1423 := E1399.ext X1413
        have F1424 := F1400.ext X1413
        have E1425 := A1390.ext X1413
        have F1426 := F1401.ext X1413
        have F1427 := F1402.ext X1413
        have F1428 := F1403.ext X1413
        have F1429 := F1404.ext X1413
        have F1430 := F1405.ext X1413
        have F1431 := F1406.ext X1413
        have F1432 := F1407.ext X1413
        have F1433 := F1408.ext X1413
        refine K.callI (a := be) [.int (1 : Int32), .int lv, .ref ek, .int lv, .int (0 : Int32), .int (0 : Int32), .ref a1409] [.ref be] 1 3 8 d0_234 rfl rfl (wd14 hw) (wd15 hw) (wd9 hw) (wd16 hw) (by decide) (rmSI l Z a0 hw be a1409 ek (1 : Int32) lv lv h1410 n0 E1425 g1388 F1426 F1427 F1428 F1429 F1430 F1431 F1432 F1433 A1414 E1415 E1423 (Nat.ne_of_gt lt_be_a1409) (by decide) (own_nn0 (by omega)) (own_irr _)) rfl (lenOf pd_22 rfl) rfl (Nat.le_of_eq rfl) (by decide) (by decide) rfl rfl (by decide) (by decide) (goU fun h1434 q1435 => ?_)
        obtain ⟨c1436, g1437, e1438, K1439, G1440, A1441⟩ := q1435
        have lt_a1409_c1436 : a1409 < c1436 := Nat.lt_of_lt_of_le A1414.lt g1437
        have lt_be_c1436 : be < c1436 := Nat.lt_of_lt_of_le E1425.lt g1437
        have lt_ek_c1436 : ek < c1436 := Nat.lt_of_lt_of_le E1423.lt g1437
        have lt_kd_c1436 : kd < c1436 := Nat.lt_of_lt_of_le I1422.lt g1437
        have S1442 := staK S1416 K1439 (allS (plE E1425) all0)
        have S1443 := staK S1417 K1439 (allS (plE E1425) all0)
        have S1444 := staK S1418 K1439 (allS (plE E1425) all0)
        have S1445 := staK S1419 K1439 (allS (plE E1425) all0)
        have S1446 := staK S1420 K1439 (allS (plE E1425) all0)
        have S1447 := staK S1421 K1439 (allS (plE E1425) all0)
        have I1448 := I1422.keep K1439 (ninS (Nat.ne_of_lt lt_kd_be) nin0)
        have E1449 := E1423.keep K1439
        have F1450 := F1424.keep K1439 (ninS (Nat.ne_of_lt lt_ek_be) nin0)
        have E1451 := E1425.keep K1439
        have I1452 := A1414.keep K1439 (ninS (Nat.ne_of_gt lt_be_a1409) nin0)
        have E1453 := E1415.keep K1439
        obtain ⟨F1454, F1455, F1456, F1457, F1458, F1459, F1460, F1461⟩ := G1440
        refine K.astore #[.val (.int sh), .val (.int ba), .val (.int fi), .val (.int qu), .val (.int cn), .val (.int (Int32.ofNat 4)), .val (.int b), .val (.int st), .val (.int o0), .val (.int o1), .val (.int o2), .val (.int o3), .val (.int (e 0)), .val (.int (e 1)), .val (.int (e 2)), .val (.int (e 3)), .val (.int (own_mn (own_mn (own_mn (e 0) (e 1)) (e 2)) (e 3))), .val (.int (e 3)), .val (.int dd), .val (.int lv), .val (.ref be), .unset, .unset, .unset] d0_237 rfl rfl ?_
        as_aux_lemma =>
          refine K.newO 4 16 d0_239 (wd7 hw) (wd8 hw) (wd9 hw) rfl rfl (by decide) (by decide) (fun h1462 su ha1463 g1464 X1465 A1466 D1467 => ?_)
          have lt_a1409_su : a1409 < su := by rw [ha1463]; exact I1452.lt
          have lt_be_su : be < su := by rw [ha1463]; exact E1451.lt
          have lt_c1436_su : c1436 < su := by rw [ha1463]; exact A1441.lt
          have lt_ek_su : ek < su := by rw [ha1463]; exact E1449.lt
          have lt_kd_su : kd < su := by rw [ha1463]; exact I1448.lt
          have S1468 := S1442.ext X1465
          have S1469 := S1443.ext X1465
          have S1470 := S1444.ext X1465
          have S1471 := S1445.ext X1465
          have S1472 := S1446.ext X1465
          have S1473 := S1447.ext X1465
          have I1474 := I1448.ext X1465
          have E1475 := E1449.ext X1465
          have F1476 := F1450.ext X1465
          have E1477 := E1451.ext X1465
          have I1478 := I1452.ext X1465
          have E1479 := E1453.ext X1465
          have F1480 := F1454.ext X1465
          have F1481 := F1455.ext X1465
          have F1482 := F1456.ext X1465
          have F1483 := F1457.ext X1465
          have F1484 := F1458.ext X1465
          have F1485 := F1459.ext X1465
          have F1486 := F1460.ext X1465
          have F1487 := F1461.ext X1465
          have I1488 := A1441.ext X1465
          have F1489 : Fld Z h1462 su "com/example/horatius/horatius/core/PageSummary" "nodes" "I" (.int (0 : Int32)) := D1467 (Or.inl (wd21 hw)) (ty := .int) (by decide)
          have F1490 : Fld Z h1462 su "com/example/horatius/horatius/core/PageSummary" "leastDepth" "I" (.int (0 : Int32)) := D1467 (Or.inl (wd23 hw)) (ty := .int) (by decide)
          have F1491 : Fld Z h1462 su "com/example/horatius/horatius/core/PageSummary" "lastKind" "Lcom/example/horatius/horatius/core/NodeKind;" .null := D1467 (Or.inl (wd31 hw)) (ty := (.object "com/example/horatius/horatius/core/NodeKind")) (by decide)
          have F1492 : Fld Z h1462 su "com/example/horatius/horatius/core/PageSummary" "lastDepth" "I" (.int (0 : Int32)) := D1467 (Or.inl (wd33 hw)) (ty := .int) (by decide)
          have F1493 : Fld Z h1462 su "com/example/horatius/horatius/core/PageSummary" "topElements" "I" (.int (0 : Int32)) := D1467 (Or.inl (wd35 hw)) (ty := .int) (by decide)
          have F1494 : Fld Z h1462 su "com/example/horatius/horatius/core/PageSummary" "typedAttributes" "I" (.int (0 : Int32)) := D1467 (Or.inl (wd37 hw)) (ty := .int) (by decide)
          have F1495 : Fld Z h1462 su "com/example/horatius/horatius/core/PageSummary" "asides" "[I" .null := D1467 (Or.inl (wd48 hw)) (ty := (.array .int)) (by decide)
          have F1496 : Fld Z h1462 su "com/example/horatius/horatius/core/PageSummary" "asideCount" "I" (.int (0 : Int32)) := D1467 (Or.inl (wd50 hw)) (ty := .int) (by decide)
          refine K.dup d0_242 rfl ?_
          refine K.iload d0_243 rfl ?_
          refine K.iload d0_245 rfl ?_
          refine K.getS d0_247 (wd10 hw) S1468 ?_
          refine K.iload d0_250 rfl ?_
          refine K.iconst (0 : Int32) d0_252 rfl ?_
          refine K.iconst (0 : Int32) d0_253 rfl ?_
          refine K.iconst (0 : Int32) d0_254 rfl ?_
          refine K.newPX 0 5 16 d0_255 (wd13 hw) (by decide) (by decide) (by decide) rfl rfl (by decide) (by decide) (fun h1498 a1497 ha1499 g1500 X1501 A1502 E1503 => ?_)
          have lt_a1409_a1497 : a1409 < a1497 := by rw [ha1499]; exact I1478.lt
          have lt_be_a1497 : be < a1497 := by rw [ha1499]; exact E1477.lt
          have lt_c1436_a1497 : c1436 < a1497 := by rw [ha1499]; exact I1488.lt
          have lt_ek_a1497 : ek < a1497 := by rw [ha1499]; exact E1475.lt
          have lt_kd_a1497 : kd < a1497 := by rw [ha1499]; exact I1474.lt
          have lt_su_a1497 : su < a1497 := by rw [ha1499]; exact A1466.lt
          have S1504 := S1468.ext X1501
          have S1505 := S1469.ext X1501
          have S1506 := S1470.ext X1501
          have S1507 := S1471.ext X1501
          have S1508 := S1472.ext X1501
          have S1509 := S1473.ext X1501
          have I1510 := I1474.ext X1501
          have E1511 := E1475.ext X1501
          have F1512 := F1476.ext X1501
          have E1513 := E1477.ext X1501
          have I1514 := I1478.ext X1501
          have E1515 := E1479.ext X1501
          have F1516 := F1480.ext X1501
          have F1517 := F1481.ext X1501
          have F1518 := F1482.ext X1501
          have F1519 := F1483.ext X1501
          have F1520 := F1484.ext X1501
          have F1521 := F1485.ext X1501
          have F1522 := F1486.ext X1501
          have F1523 := F1487.ext X1501
          have I1524 := I1488.ext X1501
          have E1525 := A1466.ext X1501
          have F1526 := F1489.ext X1501
          have F1527 := F1490.ext X1501
          have F1528 := F1491.ext X1501
          have F1529 := F1492.ext X1501
          have F1530 := F1493.ext X1501
          have F1531 := F1494.ext X1501
          have F1532 := F1495.ext X1501
          have F1533 := F1496.ext X1501
          refine K.callI (a := su) [.int (Int32.ofNat 4), .int (own_mn (own_mn (own_mn (e 0) (e 1)) (e 2)) (e 3)), .ref ek, .int (e 3), .int (0 : Int32), .int (0 : Int32), .ref a1497] [.ref su] 1 6 16 d0_257 rfl rfl (wd14 hw) (wd15 hw) (wd9 hw) (wd16 hw) (by decide) (rmSI l Z a0 hw su a1497 ek (Int32.ofNat 4) (own_mn (own_mn (own_mn (e 0) (e 1)) (e 2)) (e 3)) (e 3) h1498 n0 E1525 g1464 F1526 F1527 F1528 F1529 F1530 F1531 F1532 F1533 A1502 E1503 E1511 (Nat.ne_of_gt lt_su_a1497) (by decide) (own_nn0 hl0) (own_mn_ly _ _)) rfl (lenOf pd_22 rfl) rfl (Nat.le_of_eq rfl) (by decide) (by decide) rfl rfl (by decide) (by decide) (goU fun h1534 q1535 => ?_)
          obtain ⟨sa, g1536, e1537, K1538, G1539, A1540⟩ := q1535
          have lt_a1409_sa : a1409 < sa := Nat.lt_of_lt_of_le I1514.lt g1536
          have lt_a1497_sa : a1497 < sa := Nat.lt_of_lt_of_le A1502.lt g1536
          have lt_be_sa : be < sa := Nat.lt_of_lt_of_le E1513.lt g1536
          have lt_c1436_sa : c1436 < sa := Nat.lt_of_lt_of_le I1524.lt g1536
          have lt_ek_sa : ek < sa := Nat.lt_of_lt_of_le E1511.lt g1536
          have lt_kd_sa : kd < sa := Nat.lt_of_lt_of_le I1510.lt g1536
          have lt_su_sa : su < sa := Nat.lt_of_lt_of_le E1525.lt g1536
          have S1541 := staK S1504 K1538 (allS (plE E1525) all0)
          have S1542 := staK S1505 K1538 (allS (plE E1525) all0)
          have S1543 := staK S1506 K1538 (allS (plE E1525) all0)
          have S1544 := staK S1507 K1538 (allS (plE E1525) all0)
          have S1545 := staK S1508 K1538 (allS (plE E1525) all0)
          have S1546 := staK S1509 K1538 (allS (plE E1525) all0)
          have I1547 := I1510.keep K1538 (ninS (Nat.ne_of_lt lt_kd_su) nin0)
          have E1548 := E1511.keep K1538
          have F1549 := F1512.keep K1538 (ninS (Nat.ne_of_lt lt_ek_su) nin0)
          have E1550 := E1513.keep K1538
          have I1551 := I1514.keep K1538 (ninS (Nat.ne_of_lt lt_a1409_su) nin0)
          have E1552 := E1515.keep K1538
          have F1553 := F1516.keep K1538 (ninS (Nat.ne_of_lt lt_be_su) nin0)
          have F1554 := F1517.keep K1538 (ninS (Nat.ne_of_lt lt_be_su) nin0)
          have F1555 := F1518.keep K1538 (ninS (Nat.ne_of_lt lt_be_su) nin0)
          have F1556 := F1519.keep K1538 (ninS (Nat.ne_of_lt lt_be_su) nin0)
          have F1557 := F1520.keep K1538 (ninS (Nat.ne_of_lt lt_be_su) nin0)
          have F1558 := F1521.keep K1538 (ninS (Nat.ne_of_lt lt_be_su) nin0)
          have F1559 := F1522.keep K1538 (ninS (Nat.ne_of_lt lt_be_su) nin0)
          have F1560 := F1523.keep K1538 (ninS (Nat.ne_of_lt lt_be_su) nin0)
          have I1561 := I1524.keep K1538 (ninS (Nat.ne_of_lt lt_c1436_su) nin0)
          have E1562 := E1525.keep K1538
          have I1563 := A1502.keep K1538 (ninS (Nat.ne_of_gt lt_su_a1497) nin0)
          have E1564 := E1503.keep K1538
          obtain ⟨F1565, F1566, F1567, F1568, F1569, F1570, F1571, F1572⟩ := G1539
          refine K.astore #[.val (.int sh), .val (.int ba), .val (.int fi), .val (.int qu), .val (.int cn), .val (.int (Int32.ofNat 4)), .val (.int b), .val (.int st), .val (.int o0), .val (.int o1), .val (.int o2), .val (.int o3), .val (.int (e 0)), .val (.int (e 1)), .val (.int (e 2)), .val (.int (e 3)), .val (.int (own_mn (own_mn (own_mn (e 0) (e 1)) (e 2)) (e 3))), .val (.int (e 3)), .val (.int dd), .val (.int lv), .val (.ref be), .val (.ref su), .unset, .unset] d0_260 rfl rfl ?_
          refine K.newO 7 35 d0_262 (wd51 hw) (wd52 hw) (wd53 hw) rfl rfl (by decide) (by decide) (fun h1573 pg ha1574 g1575 X1576 A1577 D1578 => ?_)
          have lt_a1409_pg : a1409 < pg := by rw [ha1574]; exact I1551.lt
          have lt_a1497_pg : a1497 < pg := by rw [ha1574]; exact I1563.lt
          have lt_be_pg : be < pg := by rw [ha1574]; exact E1550.lt
          have lt_c1436_pg : c1436 < pg := by rw [ha1574]; exact I1561.lt
          have lt_ek_pg : ek < pg := by rw [ha1574]; exact E1548.lt
          have lt_kd_pg : kd < pg := by rw [ha1574]; exact I1547.lt
          have lt_sa_pg : sa < pg := by rw [ha1574]; exact A1540.lt
          have lt_su_pg : su < pg := by rw [ha1574]; exact E1562.lt
          have S1579 := S1541.ext X1576
          have S1580 := S1542.ext X1576
          have S1581 := S1543.ext X1576
          have S1582 := S1544.ext X1576
          have S1583 := S1545.ext X1576
          have S1584 := S1546.ext X1576
          have I1585 := I1547.ext X1576
          have E1586 := E1548.ext X1576
          have F1587 := F1549.ext X1576
          have E1588 := E1550.ext X1576
          have I1589 := I1551.ext X1576
          have E1590 := E1552.ext X1576
          have F1591 := F1553.ext X1576
          have F1592 := F1554.ext X1576
          have F1593 := F1555.ext X1576
          have F1594 := F1556.ext X1576
          have F1595 := F1557.ext X1576
          have F1596 := F1558.ext X1576
          have F1597 := F1559.ext X1576
          have F1598 := F1560.ext X1576
          have I1599 := I1561.ext X1576
          have E1600 := E1562.ext X1576
          have I1601 := I1563.ext X1576
          have E1602 := E1564.ext X1576
          have F1603 := F1565.ext X1576
          have F1604 := F1566.ext X1576
          have F1605 := F1567.ext X1576
          have F1606 := F1568.ext X1576
          have F1607 := F1569.ext X1576
          have F1608 := F1570.ext X1576
          have F1609 := F1571.ext X1576
          have F1610 := F1572.ext X1576
          have I1611 := A1540.ext X1576
          have F1612 : Fld Z h1573 pg "com/example/horatius/horatius/core/OutlinePage" "gathered" "Lcom/example/horatius/horatius/core/PageSummary;" .null := D1578 (Or.inr (wd63 hw)) (ty := (.object "com/example/horatius/horatius/core/PageSummary")) (by decide)
          have F1613 : Fld Z h1573 pg "com/example/horatius/horatius/core/OutlinePage" "open" "[I" .null := D1578 (Or.inl (wd65 hw)) (ty := (.array .int)) (by decide)
          have F1614 : Fld Z h1573 pg "com/example/horatius/horatius/core/OutlinePage" "index" "I" (.int (0 : Int32)) := D1578 (Or.inr (wd67 hw)) (ty := .int) (by decide)
          have F1615 : Fld Z h1573 pg "com/example/horatius/horatius/core/OutlinePage" "start" "I" (.int (0 : Int32)) := D1578 (Or.inr (wd69 hw)) (ty := .int) (by decide)
          have F1616 : Fld Z h1573 pg "com/example/horatius/horatius/core/OutlinePage" "summary" "Lcom/example/horatius/horatius/core/PageSummary;" .null := D1578 (Or.inr (wd71 hw)) (ty := (.object "com/example/horatius/horatius/core/PageSummary")) (by decide)
          have F1617 : Fld Z h1573 pg "com/example/horatius/horatius/core/OutlinePage" "nameCount" "I" (.int (0 : Int32)) := D1578 (Or.inr (wd73 hw)) (ty := .int) (by decide)
          have F1618 : Fld Z h1573 pg "com/example/horatius/horatius/core/OutlinePage" "previousKind" "Lcom/example/horatius/horatius/core/NodeKind;" .null := D1578 (Or.inl (wd80 hw)) (ty := (.object "com/example/horatius/horatius/core/NodeKind")) (by decide)
          have F1619 : Fld Z h1573 pg "com/example/horatius/horatius/core/OutlinePage" "previousDepth" "I" (.int (0 : Int32)) := D1578 (Or.inl (wd87 hw)) (ty := .int) (by decide)
          have F1620 : Fld Z h1573 pg "com/example/horatius/horatius/core/OutlinePage" "openBefore" "I" (.int (0 : Int32)) := D1578 (Or.inl (wd90 hw)) (ty := .int) (by decide)
          have F1621 : Fld Z h1573 pg "com/example/horatius/horatius/core/OutlinePage" "kinds" "[B" .null := D1578 (Or.inr (wd98 hw)) (ty := (.array .byte)) (by decide)
          have F1622 : Fld Z h1573 pg "com/example/horatius/horatius/core/OutlinePage" "names" "[I" .null := D1578 (Or.inr (wd100 hw)) (ty := (.array .int)) (by decide)
          have F1623 : Fld Z h1573 pg "com/example/horatius/horatius/core/OutlinePage" "depths" "[I" .null := D1578 (Or.inr (wd102 hw)) (ty := (.array .int)) (by decide)
          have F1624 : Fld Z h1573 pg "com/example/horatius/horatius/core/OutlinePage" "parents" "[I" .null := D1578 (Or.inr (wd104 hw)) (ty := (.array .int)) (by decide)
          have F1625 : Fld Z h1573 pg "com/example/horatius/horatius/core/OutlinePage" "subtreeEnds" "[I" .null := D1578 (Or.inr (wd106 hw)) (ty := (.array .int)) (by decide)
          have F1626 : Fld Z h1573 pg "com/example/horatius/horatius/core/OutlinePage" "size" "I" (.int (0 : Int32)) := D1578 (Or.inl (wd121 hw)) (ty := .int) (by decide)
          have F1627 : Fld Z h1573 pg "com/example/horatius/horatius/core/OutlinePage" "openCount" "I" (.int (0 : Int32)) := D1578 (Or.inl (wd123 hw)) (ty := .int) (by decide)
          have F1628 : Fld Z h1573 pg "com/example/horatius/horatius/core/OutlinePage" "ended" "Z" (.int (0 : Int32)) := D1578 (Or.inl (wd142 hw)) (ty := .boolean) (by decide)
          have F1629 : Fld Z h1573 pg "com/example/horatius/horatius/core/OutlinePage" "shallowestFromStart" "[I" .null := D1578 (Or.inl (wd208 hw)) (ty := (.array .int)) (by decide)
          have F1630 : Fld Z h1573 pg "com/example/horatius/horatius/core/OutlinePage" "shallowestToEnd" "[I" .null := D1578 (Or.inl (wd210 hw)) (ty := (.array .int)) (by decide)
          as_aux_lemma =>
            refine K.dup d0_265 rfl ?_
            refine K.iconst (1 : Int32) d0_266 rfl ?_
            refine K.iload d0_267 rfl ?_
            refine K.aload d0_269 rfl rfl ?_
            refine K.aload d0_271 rfl rfl ?_
            refine K.iconst (1 : Int32) d0_273 rfl ?_
            refine K.callI (a := pg) [.int (1 : Int32), .int st, .ref su, .ref be, .int (1 : Int32)] [.ref pg] 1 15 79 d0_274 rfl rfl (wd54 hw) (wd55 hw) (wd53 hw) (wd56 hw) (by decide) (rmOI l Z a0 hw pg su be ek st lv 4 h1573 n0 A1577 g1575 F1615 F1616 F1617 F1621 F1622 F1623 F1624 F1625 F1612 F1626 F1618 F1619 F1620 F1613 F1627 F1629 F1630 F1628 F1614 E1600 E1588 F1603 F1593 F1594 S1579 (Nat.ne_of_lt lt_su_pg) (Nat.ne_of_lt lt_be_pg) (by decide)) rfl (lenOf pd_23 rfl) rfl (Nat.le_of_eq rfl) (by decide) (by decide) rfl rfl (by decide) (by decide) (goU fun h1631 q1632 => ?_)
            obtain ⟨ki, na, de, pa, sb, ga, ag, op, ⟨ch_pg_ga, ch_ga_ag, ch_ag_op, ch_op_ki, ch_ki_na, ch_na_de, ch_de_pa, ch_pa_sb⟩, K1633, E1634, P1635, G1636, A1637, A1638, A1639, A1640, A1641, A1642, A1643⟩ := q1632
            have S1644 := staK S1579 K1633 (allS (plE A1577) all0)
            have S1645 := staK S1580 K1633 (allS (plE A1577) all0)
            have S1646 := staK S1581 K1633 (allS (plE A1577) all0)
            have S1647 := staK S1582 K1633 (allS (plE A1577) all0)
            have S1648 := staK S1583 K1633 (allS (plE A1577) all0)
            have S1649 := staK S1584 K1633 (allS (plE A1577) all0)
            have I1650 := I1585.keep K1633 (ninS (Nat.ne_of_lt lt_kd_pg) nin0)
            have E1651 := E1586.keep K1633
            have F1652 := F1587.keep K1633 (ninS (Nat.ne_of_lt lt_ek_pg) nin0)
            have E1653 := E1588.keep K1633
            have I1654 := I1589.keep K1633 (ninS (Nat.ne_of_lt lt_a1409_pg) nin0)
            have E1655 := E1590.keep K1633
            have F1656 := F1591.keep K1633 (ninS (Nat.ne_of_lt lt_be_pg) nin0)
            have F1657 := F1592.keep K1633 (ninS (Nat.ne_of_lt lt_be_pg) nin0)
            have F1658 := F1593.keep K1633 (ninS (Nat.ne_of_lt lt_be_pg) nin0)
            have F1659 := F1594.keep K1633 (ninS (Nat.ne_of_lt lt_be_pg) nin0)
            have F1660 := F1595.keep K1633 (ninS (Nat.ne_of_lt lt_be_pg) nin0)
            have F1661 := F1596.keep K1633 (ninS (Nat.ne_of_lt lt_be_pg) nin0)
            have F1662 := F1597.keep K1633 (ninS (Nat.ne_of_lt lt_be_pg) nin0)
            have F1663 := F1598.keep K1633 (ninS (Nat.ne_of_lt lt_be_pg) nin0)
            have I1664 := I1599.keep K1633 (ninS (Nat.ne_of_lt lt_c1436_pg) nin0)
            have E1665 := E1600.keep K1633
            have I1666 := I1601.keep K1633 (ninS (Nat.ne_of_lt lt_a1497_pg) nin0)
            have E1667 := E1602.keep K1633
            have F1668 := F1603.keep K1633 (ninS (Nat.ne_of_lt lt_su_pg) nin0)
            have F1669 := F1604.keep K1633 (ninS (Nat.ne_of_lt lt_su_pg) nin0)
            have F1670 := F1605.keep K1633 (ninS (Nat.ne_of_lt lt_su_pg) nin0)
            have F1671 := F1606.keep K1633 (ninS (Nat.ne_of_lt lt_su_pg) nin0)
            have F1672 := F1607.keep K1633 (ninS (Nat.ne_of_lt lt_su_pg) nin0)
            have F1673 := F1608.keep K1633 (ninS (Nat.ne_of_lt lt_su_pg) nin0)
            have F1674 := F1609.keep K1633 (ninS (Nat.ne_of_lt lt_su_pg) nin0)
            have F1675 := F1610.keep K1633 (ninS (Nat.ne_of_lt lt_su_pg) nin0)
            have I1676 := I1611.keep K1633 (ninS (Nat.ne_of_lt lt_sa_pg) nin0)
            have E1677 := A1577.keep K1633
            have PO : Od ek kd su sa pg ga ag op ki na de pa sb := ⟨⟨lt_ek_pg, lt_kd_pg, lt_su_pg, lt_sa_pg⟩, ch_pg_ga, ch_ga_ag, ch_ag_op, ch_op_ki, ch_ki_na, ch_na_de, ch_de_pa, ch_pa_sb⟩
            have gpg := g1575
            obtain ⟨⟨od_ek_pg, od_kd_pg, od_su_pg, od_sa_pg⟩, od_pg_ga, od_ga_ag, od_ag_op, od_op_ki, od_ki_na, od_na_de, od_de_pa, od_pa_sb⟩ := id PO
            have od_pg_ag := Nat.lt_trans od_pg_ga od_ga_ag
            have od_pg_op := Nat.lt_trans od_pg_ag od_ag_op
            have od_pg_ki := Nat.lt_trans od_pg_op od_op_ki
            have od_pg_na := Nat.lt_trans od_pg_ki od_ki_na
            have od_pg_de := Nat.lt_trans od_pg_na od_na_de
            have od_pg_pa := Nat.lt_trans od_pg_de od_de_pa
            have od_pg_sb := Nat.lt_trans od_pg_pa od_pa_sb
            have od_ga_op := Nat.lt_trans od_ga_ag od_ag_op
            have od_ga_ki := Nat.lt_trans od_ga_op od_op_ki
            have od_ga_na := Nat.lt_trans od_ga_ki od_ki_na
            have od_ga_de := Nat.lt_trans od_ga_na od_na_de
            have od_ga_pa := Nat.lt_trans od_ga_de od_de_pa
            have od_ga_sb := Nat.lt_trans od_ga_pa od_pa_sb
            have od_ag_ki := Nat.lt_trans od_ag_op od_op_ki
            have od_ag_na := Nat.lt_trans od_ag_ki od_ki_na
            have od_ag_de := Nat.lt_trans od_ag_na od_na_de
            have od_ag_pa := Nat.lt_trans od_ag_de od_de_pa
            have od_ag_sb := Nat.lt_trans od_ag_pa od_pa_sb
            have od_op_na := Nat.lt_trans od_op_ki od_ki_na
            have od_op_de := Nat.lt_trans od_op_na od_na_de
            have od_op_pa := Nat.lt_trans od_op_de od_de_pa
            have od_op_sb := Nat.lt_trans od_op_pa od_pa_sb
            have od_ki_de := Nat.lt_trans od_ki_na od_na_de
            have od_ki_pa := Nat.lt_trans od_ki_de od_de_pa
            have od_ki_sb := Nat.lt_trans od_ki_pa od_pa_sb
            have od_na_pa := Nat.lt_trans od_na_de od_de_pa
            have od_na_sb := Nat.lt_trans od_na_pa od_pa_sb
            have od_de_sb := Nat.lt_trans od_de_pa od_pa_sb
            have od_ek_ga := Nat.lt_trans od_ek_pg od_pg_ga
            have od_ek_ag := Nat.lt_trans od_ek_pg od_pg_ag
            have od_ek_op := Nat.lt_trans od_ek_pg od_pg_op
            have od_ek_ki := Nat.lt_trans od_ek_pg od_pg_ki
            have od_ek_na := Nat.lt_trans od_ek_pg od_pg_na
            have od_ek_de := Nat.lt_trans od_ek_pg od_pg_de
            have od_ek_pa := Nat.lt_trans od_ek_pg od_pg_pa
            have od_ek_sb := Nat.lt_trans od_ek_pg od_pg_sb
            have od_kd_ga := Nat.lt_trans od_kd_pg od_pg_ga
            have od_kd_ag := Nat.lt_trans od_kd_pg od_pg_ag
            have od_kd_op := Nat.lt_trans od_kd_pg od_pg_op
            have od_kd_ki := Nat.lt_trans od_kd_pg od_pg_ki
            have od_kd_na := Nat.lt_trans od_kd_pg od_pg_na
            have od_kd_de := Nat.lt_trans od_kd_pg od_pg_de
            have od_kd_pa := Nat.lt_trans od_kd_pg od_pg_pa
            have od_kd_sb := Nat.lt_trans od_kd_pg od_pg_sb
            have od_su_ga := Nat.lt_trans od_su_pg od_pg_ga
            have od_su_ag := Nat.lt_trans od_su_pg od_pg_ag
            have od_su_op := Nat.lt_trans od_su_pg od_pg_op
            have od_su_ki := Nat.lt_trans od_su_pg od_pg_ki
            have od_su_na := Nat.lt_trans od_su_pg od_pg_na
            have od_su_de := Nat.lt_trans od_su_pg od_pg_de
            have od_su_pa := Nat.lt_trans od_su_pg od_pg_pa
            have od_su_sb := Nat.lt_trans od_su_pg od_pg_sb
            have od_sa_ga := Nat.lt_trans od_sa_pg od_pg_ga
            have od_sa_ag := Nat.lt_trans od_sa_pg od_pg_ag
            have od_sa_op := Nat.lt_trans od_sa_pg od_pg_op
            have od_sa_ki := Nat.lt_trans od_sa_pg od_pg_ki
            have od_sa_na := Nat.lt_trans od_sa_pg od_pg_na
            have od_sa_de := Nat.lt_trans od_sa_pg od_pg_de
            have od_sa_pa := Nat.lt_trans od_sa_pg od_pg_pa
            have od_sa_sb := Nat.lt_trans od_sa_pg od_pg_sb
            have ge_ga := Nat.le_trans gpg (Nat.le_of_lt od_pg_ga)
            have ge_ag := Nat.le_trans gpg (Nat.le_of_lt od_pg_ag)
            have ge_op := Nat.le_trans gpg (Nat.le_of_lt od_pg_op)
            have ge_ki := Nat.le_trans gpg (Nat.le_of_lt od_pg_ki)
            have ge_na := Nat.le_trans gpg (Nat.le_of_lt od_pg_na)
            have ge_de := Nat.le_trans gpg (Nat.le_of_lt od_pg_de)
            have ge_pa := Nat.le_trans gpg (Nat.le_of_lt od_pg_pa)
            have ge_sb := Nat.le_trans gpg (Nat.le_of_lt od_pg_sb)
            obtain ⟨F1678, F1679, F1680, F1681, F1682, F1683, F1684, F1685, F1686, F1687, F1688, F1689, F1690, F1691, F1692, F1693, F1694, F1695⟩ := P1635
            obtain ⟨F1696, F1697, F1698, F1699, F1700, F1701, F1702, F1703⟩ := G1636
            have A1704 := A1641.congr (own_dzero e _)
            refine K.astore #[.val (.int sh), .val (.int ba), .val (.int fi), .val (.int qu), .val (.int cn), .val (.int (Int32.ofNat 4)), .val (.int b), .val (.int st), .val (.int o0), .val (.int o1), .val (.int o2), .val (.int o3), .val (.int (e 0)), .val (.int (e 1)), .val (.int (e 2)), .val (.int (e 3)), .val (.int (own_mn (own_mn (own_mn (e 0) (e 1)) (e 2)) (e 3))), .val (.int (e 3)), .val (.int dd), .val (.int lv), .val (.ref be), .val (.ref su), .val (.ref pg), .unset] d0_277 rfl rfl ?_
            refine K.aload d0_279 rfl rfl ?_
            refine K.iload d0_281 rfl ?_
            refine K.iconst (0 : Int32) d0_283 rfl ?_
            refine K.iloadN d0_284 rfl ?_
            refine K.bipush (8 : Int32) d0_285 rfl ?_
            refine K.iushr d0_287 ?_
            refine K.iconst (1 : Int32) d0_288 rfl ?_
            refine K.iand d0_289 ?_
            refine cut (P := ∀ z1705 : Int32, z1705 = (if (((sh.toUInt32 >>> ((8 : Int32) &&& 31).toUInt32).toInt32) &&& (1 : Int32)) = 0 then 0 else 1) → Wk E h1631 15 79 298 #[.val (.int sh), .val (.int ba), .val (.int fi), .val (.int qu), .val (.int cn), .val (.int (Int32.ofNat 4)), .val (.int b), .val (.int st), .val (.int o0), .val (.int o1), .val (.int o2), .val (.int o3), .val (.int (e 0)), .val (.int (e 1)), .val (.int (e 2)), .val (.int (e 3)), .val (.int (own_mn (own_mn (own_mn (e 0) (e 1)) (e 2)) (e 3))), .val (.int (e 3)), .val (.int dd), .val (.int lv), .val (.ref be), .val (.ref su), .val (.ref pg), .unset] [.int z1705, .int (0 : Int32), .int (e 0), .ref pg]) (fun J1706 => ?_) ?_
            · refine K.if_eq d0_290 (fun hc1707 => ?_) (fun hc1707 => ?_)
              · refine K.iconst (0 : Int32) d0_297 rfl ?_
                exact J1706 _ (if_pos hc1707).symm
              · refine K.iconst (1 : Int32) d0_293 rfl ?_
                refine K.goto d0_294 ?_
                exact J1706 _ (if_neg hc1707).symm
            intro z1705 hz1705
            as_aux_lemma =>
              refine K.callV (a := pg) [.int (e 0), .int (0 : Int32), .int z1705] [] 0 15 79 d0_298 (wd107 hw) (wd108 hw) (wd110 hw) (wd109 hw) (wd53 hw) (wd111 hw) (by decide) (rmEL l Z a0 hw ek aq cq pq oq kd su sa pg ga ag op ki na de pa sb fd st 0 4 (.ref ek) lv (lv + 1) 0 (0 : Int32) .null (0 : Int32) e (fun _ => .int 0) (fun _ => .int 0) (fun _ => .int 0) (fun _ => .int 0) (fun _ => 0) z1705 h1631 n0 PO gpg ⟨S1644, S1645, S1646, S1647, S1648, S1649, I1650, E1651, F1652, hfd, hna, hnc, hnp⟩ E1677 E1634 ⟨F1678, F1679, F1680, F1681, F1682, F1683, F1684, F1685, F1686, F1687, F1688, F1689, F1690, F1691, F1692, F1693, F1694, F1695⟩ ⟨F1696, F1697, F1698, F1699, F1700, F1701, F1702, F1703⟩ A1639 A1640 A1704 A1642 A1643 (by decide) (by decide) (own_ne1 he0a) A1638 (own_st hs1 hs2 (by decide)) (by omega) (by rw [hlv1]; omega) (by rw [hlv1]; omega) (by rw [hlv1]; omega) (Nat.le_refl _) (fun j hj => absurd hj (by omega))) E1677 rfl (lenOf pd_24 rfl) rfl (Nat.le_of_eq rfl) (by decide) (by decide) rfl rfl (by decide) (by decide) (goU fun h1708 q1709 => ?_)
              obtain ⟨K1710, ob1, oc1, g1, hoc1, hob1, heq1, hg1, A1711, N1712, N1713, ⟨fn1719, N1714⟩, ⟨fn1720, N1715⟩, N1716, ⟨fn1721, N1717⟩, ⟨fn1722, N1718⟩⟩ := q1709
              have S1723 := staK S1644 K1710 (allS (plE E1677) (allS (plE E1634) (allS (plA A1639) (allS (plA A1640) (allS (plA A1704) (allS (plA A1642) (allS (plA A1643) (allS (plA A1638) all0))))))))
              have S1724 := staK S1645 K1710 (allS (plE E1677) (allS (plE E1634) (allS (plA A1639) (allS (plA A1640) (allS (plA A1704) (allS (plA A1642) (allS (plA A1643) (allS (plA A1638) all0))))))))
              have S1725 := staK S1646 K1710 (allS (plE E1677) (allS (plE E1634) (allS (plA A1639) (allS (plA A1640) (allS (plA A1704) (allS (plA A1642) (allS (plA A1643) (allS (plA A1638) all0))))))))
              have S1726 := staK S1647 K1710 (allS (plE E1677) (allS (plE E1634) (allS (plA A1639) (allS (plA A1640) (allS (plA A1704) (allS (plA A1642) (allS (plA A1643) (allS (plA A1638) all0))))))))
              have S1727 := staK S1648 K1710 (allS (plE E1677) (allS (plE E1634) (allS (plA A1639) (allS (plA A1640) (allS (plA A1704) (allS (plA A1642) (allS (plA A1643) (allS (plA A1638) all0))))))))
              have S1728 := staK S1649 K1710 (allS (plE E1677) (allS (plE E1634) (allS (plA A1639) (allS (plA A1640) (allS (plA A1704) (allS (plA A1642) (allS (plA A1643) (allS (plA A1638) all0))))))))
              have I1729 := I1650.keep K1710 (ninS (Nat.ne_of_lt od_kd_pg) (ninS (Nat.ne_of_lt od_kd_ga) (ninS (Nat.ne_of_lt od_kd_ki) (ninS (Nat.ne_of_lt od_kd_na) (ninS (Nat.ne_of_lt od_kd_de) (ninS (Nat.ne_of_lt od_kd_pa) (ninS (Nat.ne_of_lt od_kd_sb) (ninS (Nat.ne_of_lt od_kd_op) nin0))))))))
              have E1730 := E1651.keep K1710
              have F1731 := F1652.keep K1710 (ninS (Nat.ne_of_lt od_ek_pg) (ninS (Nat.ne_of_lt od_ek_ga) (ninS (Nat.ne_of_lt od_ek_ki) (ninS (Nat.ne_of_lt od_ek_na) (ninS (Nat.ne_of_lt od_ek_de) (ninS (Nat.ne_of_lt od_ek_pa) (ninS (Nat.ne_of_lt od_ek_sb) (ninS (Nat.ne_of_lt od_ek_op) nin0))))))))
              have E1732 := E1665.keep K1710
              have F1733 := F1668.keep K1710 (ninS (Nat.ne_of_lt od_su_pg) (ninS (Nat.ne_of_lt od_su_ga) (ninS (Nat.ne_of_lt od_su_ki) (ninS (Nat.ne_of_lt od_su_na) (ninS (Nat.ne_of_lt od_su_de) (ninS (Nat.ne_of_lt od_su_pa) (ninS (Nat.ne_of_lt od_su_sb) (ninS (Nat.ne_of_lt od_su_op) nin0))))))))
              have F1734 := F1669.keep K1710 (ninS (Nat.ne_of_lt od_su_pg) (ninS (Nat.ne_of_lt od_su_ga) (ninS (Nat.ne_of_lt od_su_ki) (ninS (Nat.ne_of_lt od_su_na) (ninS (Nat.ne_of_lt od_su_de) (ninS (Nat.ne_of_lt od_su_pa) (ninS (Nat.ne_of_lt od_su_sb) (ninS (Nat.ne_of_lt od_su_op) nin0))))))))
              have F1735 := F1670.keep K1710 (ninS (Nat.ne_of_lt od_su_pg) (ninS (Nat.ne_of_lt od_su_ga) (ninS (Nat.ne_of_lt od_su_ki) (ninS (Nat.ne_of_lt od_su_na) (ninS (Nat.ne_of_lt od_su_de) (ninS (Nat.ne_of_lt od_su_pa) (ninS (Nat.ne_of_lt od_su_sb) (ninS (Nat.ne_of_lt od_su_op) nin0))))))))
              have F1736 := F1671.keep K1710 (ninS (Nat.ne_of_lt od_su_pg) (ninS (Nat.ne_of_lt od_su_ga) (ninS (Nat.ne_of_lt od_su_ki) (ninS (Nat.ne_of_lt od_su_na) (ninS (Nat.ne_of_lt od_su_de) (ninS (Nat.ne_of_lt od_su_pa) (ninS (Nat.ne_of_lt od_su_sb) (ninS (Nat.ne_of_lt od_su_op) nin0))))))))
              have F1737 := F1672.keep K1710 (ninS (Nat.ne_of_lt od_su_pg) (ninS (Nat.ne_of_lt od_su_ga) (ninS (Nat.ne_of_lt od_su_ki) (ninS (Nat.ne_of_lt od_su_na) (ninS (Nat.ne_of_lt od_su_de) (ninS (Nat.ne_of_lt od_su_pa) (ninS (Nat.ne_of_lt od_su_sb) (ninS (Nat.ne_of_lt od_su_op) nin0))))))))
              have F1738 := F1673.keep K1710 (ninS (Nat.ne_of_lt od_su_pg) (ninS (Nat.ne_of_lt od_su_ga) (ninS (Nat.ne_of_lt od_su_ki) (ninS (Nat.ne_of_lt od_su_na) (ninS (Nat.ne_of_lt od_su_de) (ninS (Nat.ne_of_lt od_su_pa) (ninS (Nat.ne_of_lt od_su_sb) (ninS (Nat.ne_of_lt od_su_op) nin0))))))))
              have F1739 := F1674.keep K1710 (ninS (Nat.ne_of_lt od_su_pg) (ninS (Nat.ne_of_lt od_su_ga) (ninS (Nat.ne_of_lt od_su_ki) (ninS (Nat.ne_of_lt od_su_na) (ninS (Nat.ne_of_lt od_su_de) (ninS (Nat.ne_of_lt od_su_pa) (ninS (Nat.ne_of_lt od_su_sb) (ninS (Nat.ne_of_lt od_su_op) nin0))))))))
              have F1740 := F1675.keep K1710 (ninS (Nat.ne_of_lt od_su_pg) (ninS (Nat.ne_of_lt od_su_ga) (ninS (Nat.ne_of_lt od_su_ki) (ninS (Nat.ne_of_lt od_su_na) (ninS (Nat.ne_of_lt od_su_de) (ninS (Nat.ne_of_lt od_su_pa) (ninS (Nat.ne_of_lt od_su_sb) (ninS (Nat.ne_of_lt od_su_op) nin0))))))))
              have I1741 := I1676.keep K1710 (ninS (Nat.ne_of_lt od_sa_pg) (ninS (Nat.ne_of_lt od_sa_ga) (ninS (Nat.ne_of_lt od_sa_ki) (ninS (Nat.ne_of_lt od_sa_na) (ninS (Nat.ne_of_lt od_sa_de) (ninS (Nat.ne_of_lt od_sa_pa) (ninS (Nat.ne_of_lt od_sa_sb) (ninS (Nat.ne_of_lt od_sa_op) nin0))))))))
              have E1742 := E1677.keep K1710
              have E1743 := E1634.keep K1710
              have I1744 := A1637.keep K1710 (ninS (Nat.ne_of_gt od_pg_ag) (ninS (Nat.ne_of_gt od_ga_ag) (ninS (Nat.ne_of_lt od_ag_ki) (ninS (Nat.ne_of_lt od_ag_na) (ninS (Nat.ne_of_lt od_ag_de) (ninS (Nat.ne_of_lt od_ag_pa) (ninS (Nat.ne_of_lt od_ag_sb) (ninS (Nat.ne_of_lt od_ag_op) nin0))))))))
              obtain ⟨F1745, F1746, F1747, F1748, F1749, F1750, F1751, F1752, F1753, F1754, F1755, F1756, F1757, F1758, F1759, F1760, F1761, F1762⟩ := N1712
              obtain ⟨F1763, F1764, F1765, F1766, F1767, F1768, F1769, F1770⟩ := N1713
              rw [own_ls0] at F1764
              refine K.iload d0_301 rfl ?_
              refine K.iconst (2 : Int32) d0_303 rfl ?_
              refine K.ic_lt d0_304 (fun u => absurd u (by decide)) (fun _ => ?_)
              refine K.aload d0_307 rfl rfl ?_
              refine K.iload d0_309 rfl ?_
              refine K.iconst (0 : Int32) d0_311 rfl ?_
              refine K.iloadN d0_312 rfl ?_
              refine K.bipush (9 : Int32) d0_313 rfl ?_
              refine K.iushr d0_315 ?_
              refine K.iconst (1 : Int32) d0_316 rfl ?_
              refine K.iand d0_317 ?_
              refine cut (P := ∀ z1771 : Int32, z1771 = (if (((sh.toUInt32 >>> ((9 : Int32) &&& 31).toUInt32).toInt32) &&& (1 : Int32)) = 0 then 0 else 1) → Wk E h1708 15 79 326 #[.val (.int sh), .val (.int ba), .val (.int fi), .val (.int qu), .val (.int cn), .val (.int (Int32.ofNat 4)), .val (.int b), .val (.int st), .val (.int o0), .val (.int o1), .val (.int o2), .val (.int o3), .val (.int (e 0)), .val (.int (e 1)), .val (.int (e 2)), .val (.int (e 3)), .val (.int (own_mn (own_mn (own_mn (e 0) (e 1)) (e 2)) (e 3))), .val (.int (e 3)), .val (.int dd), .val (.int lv), .val (.ref be), .val (.ref su), .val (.ref pg), .unset] [.int z1771, .int (0 : Int32), .int (e 1), .ref pg]) (fun J1772 => ?_) ?_
              · refine K.if_eq d0_318 (fun hc1773 => ?_) (fun hc1773 => ?_)
                · refine K.iconst (0 : Int32) d0_325 rfl ?_
                  exact J1772 _ (if_pos hc1773).symm
                · refine K.iconst (1 : Int32) d0_321 rfl ?_
                  refine K.goto d0_322 ?_
                  exact J1772 _ (if_neg hc1773).symm
              intro z1771 hz1771
              as_aux_lemma =>
                refine K.callV (a := pg) [.int (e 1), .int (0 : Int32), .int z1771] [] 0 15 79 d0_326 (wd107 hw) (wd108 hw) (wd110 hw) (wd109 hw) (wd53 hw) (wd111 hw) (by decide) (rmEL l Z a0 hw ek aq cq pq oq kd su sa pg ga ag op ki na de pa sb fd st 1 4 (.ref ek) (e 0) ob1 oc1 (e 0) (.ref ek) (e 0) e fn1719 fn1720 fn1721 fn1722 g1 z1771 h1708 n0 PO gpg ⟨S1723, S1724, S1725, S1726, S1727, S1728, I1729, E1730, F1731, hfd, hna, hnc, hnp⟩ E1742 E1743 ⟨F1745, F1746, F1747, F1748, F1749, F1750, F1751, F1752, F1753, F1754, F1755, F1756, F1757, F1758, F1759, F1760, F1761, F1762⟩ ⟨F1763, F1764, F1765, F1766, F1767, F1768, F1769, F1770⟩ N1714 N1715 N1716 N1717 N1718 (by decide) (by decide) (own_ne1 he1a) A1711 (own_st hs1 hs2 (by decide)) (by omega) (by omega) hob1 (by omega) hoc1 hg1) E1742 rfl (lenOf pd_24 rfl) rfl (Nat.le_of_eq rfl) (by decide) (by decide) rfl rfl (by decide) (by decide) (goU fun h1774 q1775 => ?_)
                obtain ⟨K1776, ob2, oc2, g2, hoc2, hob2, heq2, hg2, A1777, N1778, N1779, ⟨fn1785, N1780⟩, ⟨fn1786, N1781⟩, N1782, ⟨fn1787, N1783⟩, ⟨fn1788, N1784⟩⟩ := q1775
                have S1789 := staK S1723 K1776 (allS (plE E1742) (allS (plE E1743) (allS (plA N1714) (allS (plA N1715) (allS (plA N1716) (allS (plA N1717) (allS (plA N1718) (allS (plA A1711) all0))))))))
                have S1790 := staK S1724 K1776 (allS (plE E1742) (allS (plE E1743) (allS (plA N1714) (allS (plA N1715) (allS (plA N1716) (allS (plA N1717) (allS (plA N1718) (allS (plA A1711) all0))))))))
                have S1791 := staK S1725 K1776 (allS (plE E1742) (allS (plE E1743) (allS (plA N1714) (allS (plA N1715) (allS (plA N1716) (allS (plA N1717) (allS (plA N1718) (allS (plA A1711) all0))))))))
                have S1792 := staK S1726 K1776 (allS (plE E1742) (allS (plE E1743) (allS (plA N1714) (allS (plA N1715) (allS (plA N1716) (allS (plA N1717) (allS (plA N1718) (allS (plA A1711) all0))))))))
                have S1793 := staK S1727 K1776 (allS (plE E1742) (allS (plE E1743) (allS (plA N1714) (allS (plA N1715) (allS (plA N1716) (allS (plA N1717) (allS (plA N1718) (allS (plA A1711) all0))))))))
                have S1794 := staK S1728 K1776 (allS (plE E1742) (allS (plE E1743) (allS (plA N1714) (allS (plA N1715) (allS (plA N1716) (allS (plA N1717) (allS (plA N1718) (allS (plA A1711) all0))))))))
                have I1795 := I1729.keep K1776 (ninS (Nat.ne_of_lt od_kd_pg) (ninS (Nat.ne_of_lt od_kd_ga) (ninS (Nat.ne_of_lt od_kd_ki) (ninS (Nat.ne_of_lt od_kd_na) (ninS (Nat.ne_of_lt od_kd_de) (ninS (Nat.ne_of_lt od_kd_pa) (ninS (Nat.ne_of_lt od_kd_sb) (ninS (Nat.ne_of_lt od_kd_op) nin0))))))))
                have E1796 := E1730.keep K1776
                have F1797 := F1731.keep K1776 (ninS (Nat.ne_of_lt od_ek_pg) (ninS (Nat.ne_of_lt od_ek_ga) (ninS (Nat.ne_of_lt od_ek_ki) (ninS (Nat.ne_of_lt od_ek_na) (ninS (Nat.ne_of_lt od_ek_de) (ninS (Nat.ne_of_lt od_ek_pa) (ninS (Nat.ne_of_lt od_ek_sb) (ninS (Nat.ne_of_lt od_ek_op) nin0))))))))
                have E1798 := E1732.keep K1776
                have F1799 := F1733.keep K1776 (ninS (Nat.ne_of_lt od_su_pg) (ninS (Nat.ne_of_lt od_su_ga) (ninS (Nat.ne_of_lt od_su_ki) (ninS (Nat.ne_of_lt od_su_na) (ninS (Nat.ne_of_lt od_su_de) (ninS (Nat.ne_of_lt od_su_pa) (ninS (Nat.ne_of_lt od_su_sb) (ninS (Nat.ne_of_lt od_su_op) nin0))))))))
                have F1800 := F1734.keep K1776 (ninS (Nat.ne_of_lt od_su_pg) (ninS (Nat.ne_of_lt od_su_ga) (ninS (Nat.ne_of_lt od_su_ki) (ninS (Nat.ne_of_lt od_su_na) (ninS (Nat.ne_of_lt od_su_de) (ninS (Nat.ne_of_lt od_su_pa) (ninS (Nat.ne_of_lt od_su_sb) (ninS (Nat.ne_of_lt od_su_op) nin0))))))))
                have F1801 := F1735.keep K1776 (ninS (Nat.ne_of_lt od_su_pg) (ninS (Nat.ne_of_lt od_su_ga) (ninS (Nat.ne_of_lt od_su_ki) (ninS (Nat.ne_of_lt od_su_na) (ninS (Nat.ne_of_lt od_su_de) (ninS (Nat.ne_of_lt od_su_pa) (ninS (Nat.ne_of_lt od_su_sb) (ninS (Nat.ne_of_lt od_su_op) nin0))))))))
                have F1802 := F1736.keep K1776 (ninS (Nat.ne_of_lt od_su_pg) (ninS (Nat.ne_of_lt od_su_ga) (ninS (Nat.ne_of_lt od_su_ki) (ninS (Nat.ne_of_lt od_su_na) (ninS (Nat.ne_of_lt od_su_de) (ninS (Nat.ne_of_lt od_su_pa) (ninS (Nat.ne_of_lt od_su_sb) (ninS (Nat.ne_of_lt od_su_op) nin0))))))))
                have F1803 := F1737.keep K1776 (ninS (Nat.ne_of_lt od_su_pg) (ninS (Nat.ne_of_lt od_su_ga) (ninS (Nat.ne_of_lt od_su_ki) (ninS (Nat.ne_of_lt od_su_na) (ninS (Nat.ne_of_lt od_su_de) (ninS (Nat.ne_of_lt od_su_pa) (ninS (Nat.ne_of_lt od_su_sb) (ninS (Nat.ne_of_lt od_su_op) nin0))))))))
                have F1804 := F1738.keep K1776 (ninS (Nat.ne_of_lt od_su_pg) (ninS (Nat.ne_of_lt od_su_ga) (ninS (Nat.ne_of_lt od_su_ki) (ninS (Nat.ne_of_lt od_su_na) (ninS (Nat.ne_of_lt od_su_de) (ninS (Nat.ne_of_lt od_su_pa) (ninS (Nat.ne_of_lt od_su_sb) (ninS (Nat.ne_of_lt od_su_op) nin0))))))))
                have F1805 := F1739.keep K1776 (ninS (Nat.ne_of_lt od_su_pg) (ninS (Nat.ne_of_lt od_su_ga) (ninS (Nat.ne_of_lt od_su_ki) (ninS (Nat.ne_of_lt od_su_na) (ninS (Nat.ne_of_lt od_su_de) (ninS (Nat.ne_of_lt od_su_pa) (ninS (Nat.ne_of_lt od_su_sb) (ninS (Nat.ne_of_lt od_su_op) nin0))))))))
                have F1806 := F1740.keep K1776 (ninS (Nat.ne_of_lt od_su_pg) (ninS (Nat.ne_of_lt od_su_ga) (ninS (Nat.ne_of_lt od_su_ki) (ninS (Nat.ne_of_lt od_su_na) (ninS (Nat.ne_of_lt od_su_de) (ninS (Nat.ne_of_lt od_su_pa) (ninS (Nat.ne_of_lt od_su_sb) (ninS (Nat.ne_of_lt od_su_op) nin0))))))))
                have I1807 := I1741.keep K1776 (ninS (Nat.ne_of_lt od_sa_pg) (ninS (Nat.ne_of_lt od_sa_ga) (ninS (Nat.ne_of_lt od_sa_ki) (ninS (Nat.ne_of_lt od_sa_na) (ninS (Nat.ne_of_lt od_sa_de) (ninS (Nat.ne_of_lt od_sa_pa) (ninS (Nat.ne_of_lt od_sa_sb) (ninS (Nat.ne_of_lt od_sa_op) nin0))))))))
                have E1808 := E1742.keep K1776
                have E1809 := E1743.keep K1776
                have I1810 := I1744.keep K1776 (ninS (Nat.ne_of_gt od_pg_ag) (ninS (Nat.ne_of_gt od_ga_ag) (ninS (Nat.ne_of_lt od_ag_ki) (ninS (Nat.ne_of_lt od_ag_na) (ninS (Nat.ne_of_lt od_ag_de) (ninS (Nat.ne_of_lt od_ag_pa) (ninS (Nat.ne_of_lt od_ag_sb) (ninS (Nat.ne_of_lt od_ag_op) nin0))))))))
                obtain ⟨F1811, F1812, F1813, F1814, F1815, F1816, F1817, F1818, F1819, F1820, F1821, F1822, F1823, F1824, F1825, F1826, F1827, F1828⟩ := N1778
                obtain ⟨F1829, F1830, F1831, F1832, F1833, F1834, F1835, F1836⟩ := N1779
                rw [own_lsS (by decide)] at F1830
                refine K.iload d0_329 rfl ?_
                refine K.iconst (3 : Int32) d0_331 rfl ?_
                refine K.ic_lt d0_332 (fun u => absurd u (by decide)) (fun _ => ?_)
                refine K.aload d0_335 rfl rfl ?_
                refine K.iload d0_337 rfl ?_
                refine K.iconst (0 : Int32) d0_339 rfl ?_
                refine K.iloadN d0_340 rfl ?_
                refine K.bipush (10 : Int32) d0_341 rfl ?_
                refine K.iushr d0_343 ?_
                refine K.iconst (1 : Int32) d0_344 rfl ?_
                refine K.iand d0_345 ?_
                refine cut (P := ∀ z1837 : Int32, z1837 = (if (((sh.toUInt32 >>> ((10 : Int32) &&& 31).toUInt32).toInt32) &&& (1 : Int32)) = 0 then 0 else 1) → Wk E h1774 15 79 354 #[.val (.int sh), .val (.int ba), .val (.int fi), .val (.int qu), .val (.int cn), .val (.int (Int32.ofNat 4)), .val (.int b), .val (.int st), .val (.int o0), .val (.int o1), .val (.int o2), .val (.int o3), .val (.int (e 0)), .val (.int (e 1)), .val (.int (e 2)), .val (.int (e 3)), .val (.int (own_mn (own_mn (own_mn (e 0) (e 1)) (e 2)) (e 3))), .val (.int (e 3)), .val (.int dd), .val (.int lv), .val (.ref be), .val (.ref su), .val (.ref pg), .unset] [.int z1837, .int (0 : Int32), .int (e 2), .ref pg]) (fun J1838 => ?_) ?_
                · refine K.if_eq d0_346 (fun hc1839 => ?_) (fun hc1839 => ?_)
                  · refine K.iconst (0 : Int32) d0_353 rfl ?_
                    exact J1838 _ (if_pos hc1839).symm
                  · refine K.iconst (1 : Int32) d0_349 rfl ?_
                    refine K.goto d0_350 ?_
                    exact J1838 _ (if_neg hc1839).symm
                intro z1837 hz1837
                as_aux_lemma =>
                  refine K.callV (a := pg) [.int (e 2), .int (0 : Int32), .int z1837] [] 0 15 79 d0_354 (wd107 hw) (wd108 hw) (wd110 hw) (wd109 hw) (wd53 hw) (wd111 hw) (by decide) (rmEL l Z a0 hw ek aq cq pq oq kd su sa pg ga ag op ki na de pa sb fd st 2 4 (.ref ek) (e 1) ob2 oc2 (own_mn (e 0) (e 1)) (.ref ek) (e 1) e fn1785 fn1786 fn1787 fn1788 g2 z1837 h1774 n0 PO gpg ⟨S1789, S1790, S1791, S1792, S1793, S1794, I1795, E1796, F1797, hfd, hna, hnc, hnp⟩ E1808 E1809 ⟨F1811, F1812, F1813, F1814, F1815, F1816, F1817, F1818, F1819, F1820, F1821, F1822, F1823, F1824, F1825, F1826, F1827, F1828⟩ ⟨F1829, F1830, F1831, F1832, F1833, F1834, F1835, F1836⟩ N1780 N1781 N1782 N1783 N1784 (by decide) (by decide) (own_ne1 he2a) A1777 (own_st hs1 hs2 (by decide)) (by omega) (by omega) hob2 (by omega) hoc2 hg2) E1808 rfl (lenOf pd_24 rfl) rfl (Nat.le_of_eq rfl) (by decide) (by decide) rfl rfl (by decide) (by decide) (goU fun h1840 q1841 => ?_)
                  obtain ⟨K1842, ob3, oc3, g3, hoc3, hob3, heq3, hg3, A1843, N1844, N1845, ⟨fn1851, N1846⟩, ⟨fn1852, N1847⟩, N1848, ⟨fn1853, N1849⟩, ⟨fn1854, N1850⟩⟩ := q1841
                  have S1855 := staK S1789 K1842 (allS (plE E1808) (allS (plE E1809) (allS (plA N1780) (allS (plA N1781) (allS (plA N1782) (allS (plA N1783) (allS (plA N1784) (allS (plA A1777) all0))))))))
                  have S1856 := staK S1790 K1842 (allS (plE E1808) (allS (plE E1809) (allS (plA N1780) (allS (plA N1781) (allS (plA N1782) (allS (plA N1783) (allS (plA N1784) (allS (plA A1777) all0))))))))
                  have S1857 := staK S1791 K1842 (allS (plE E1808) (allS (plE E1809) (allS (plA N1780) (allS (plA N1781) (allS (plA N1782) (allS (plA N1783) (allS (plA N1784) (allS (plA A1777) all0))))))))
                  have S1858 := staK S1792 K1842 (allS (plE E1808) (allS (plE E1809) (allS (plA N1780) (allS (plA N1781) (allS (plA N1782) (allS (plA N1783) (allS (plA N1784) (allS (plA A1777) all0))))))))
                  have S1859 := staK S1793 K1842 (allS (plE E1808) (allS (plE E1809) (allS (plA N1780) (allS (plA N1781) (allS (plA N1782) (allS (plA N1783) (allS (plA N1784) (allS (plA A1777) all0))))))))
                  have S1860 := staK S1794 K1842 (allS (plE E1808) (allS (plE E1809) (allS (plA N1780) (allS (plA N1781) (allS (plA N1782) (allS (plA N1783) (allS (plA N1784) (allS (plA A1777) all0))))))))
                  have I1861 := I1795.keep K1842 (ninS (Nat.ne_of_lt od_kd_pg) (ninS (Nat.ne_of_lt od_kd_ga) (ninS (Nat.ne_of_lt od_kd_ki) (ninS (Nat.ne_of_lt od_kd_na) (ninS (Nat.ne_of_lt od_kd_de) (ninS (Nat.ne_of_lt od_kd_pa) (ninS (Nat.ne_of_lt od_kd_sb) (ninS (Nat.ne_of_lt od_kd_op) nin0))))))))
                  have E1862 := E1796.keep K1842
                  have F1863 := F1797.keep K1842 (ninS (Nat.ne_of_lt od_ek_pg) (ninS (Nat.ne_of_lt od_ek_ga) (ninS (Nat.ne_of_lt od_ek_ki) (ninS (Nat.ne_of_lt od_ek_na) (ninS (Nat.ne_of_lt od_ek_de) (ninS (Nat.ne_of_lt od_ek_pa) (ninS (Nat.ne_of_lt od_ek_sb) (ninS (Nat.ne_of_lt od_ek_op) nin0))))))))
                  have E1864 := E1798.keep K1842
                  have F1865 := F1799.keep K1842 (ninS (Nat.ne_of_lt od_su_pg) (ninS (Nat.ne_of_lt od_su_ga) (ninS (Nat.ne_of_lt od_su_ki) (ninS (Nat.ne_of_lt od_su_na) (ninS (Nat.ne_of_lt od_su_de) (ninS (Nat.ne_of_lt od_su_pa) (ninS (Nat.ne_of_lt od_su_sb) (ninS (Nat.ne_of_lt od_su_op) nin0))))))))
                  have F1866 := F1800.keep K1842 (ninS (Nat.ne_of_lt od_su_pg) (ninS (Nat.ne_of_lt od_su_ga) (ninS (Nat.ne_of_lt od_su_ki) (ninS (Nat.ne_of_lt od_su_na) (ninS (Nat.ne_of_lt od_su_de) (ninS (Nat.ne_of_lt od_su_pa) (ninS (Nat.ne_of_lt od_su_sb) (ninS (Nat.ne_of_lt od_su_op) nin0))))))))
                  have F1867 := F1801.keep K1842 (ninS (Nat.ne_of_lt od_su_pg) (ninS (Nat.ne_of_lt od_su_ga) (ninS (Nat.ne_of_lt od_su_ki) (ninS (Nat.ne_of_lt od_su_na) (ninS (Nat.ne_of_lt od_su_de) (ninS (Nat.ne_of_lt od_su_pa) (ninS (Nat.ne_of_lt od_su_sb) (ninS (Nat.ne_of_lt od_su_op) nin0))))))))
                  have F1868 := F1802.keep K1842 (ninS (Nat.ne_of_lt od_su_pg) (ninS (Nat.ne_of_lt od_su_ga) (ninS (Nat.ne_of_lt od_su_ki) (ninS (Nat.ne_of_lt od_su_na) (ninS (Nat.ne_of_lt od_su_de) (ninS (Nat.ne_of_lt od_su_pa) (ninS (Nat.ne_of_lt od_su_sb) (ninS (Nat.ne_of_lt od_su_op) nin0))))))))
                  have F1869 := F1803.keep K1842 (ninS (Nat.ne_of_lt od_su_pg) (ninS (Nat.ne_of_lt od_su_ga) (ninS (Nat.ne_of_lt od_su_ki) (ninS (Nat.ne_of_lt od_su_na) (ninS (Nat.ne_of_lt od_su_de) (ninS (Nat.ne_of_lt od_su_pa) (ninS (Nat.ne_of_lt od_su_sb) (ninS (Nat.ne_of_lt od_su_op) nin0))))))))
                  have F1870 := F1804.keep K1842 (ninS (Nat.ne_of_lt od_su_pg) (ninS (Nat.ne_of_lt od_su_ga) (ninS (Nat.ne_of_lt od_su_ki) (ninS (Nat.ne_of_lt od_su_na) (ninS (Nat.ne_of_lt od_su_de) (ninS (Nat.ne_of_lt od_su_pa) (ninS (Nat.ne_of_lt od_su_sb) (ninS (Nat.ne_of_lt od_su_op) nin0))))))))
                  have F1871 := F1805.keep K1842 (ninS (Nat.ne_of_lt od_su_pg) (ninS (Nat.ne_of_lt od_su_ga) (ninS (Nat.ne_of_lt od_su_ki) (ninS (Nat.ne_of_lt od_su_na) (ninS (Nat.ne_of_lt od_su_de) (ninS (Nat.ne_of_lt od_su_pa) (ninS (Nat.ne_of_lt od_su_sb) (ninS (Nat.ne_of_lt od_su_op) nin0))))))))
                  have F1872 := F1806.keep K1842 (ninS (Nat.ne_of_lt od_su_pg) (ninS (Nat.ne_of_lt od_su_ga) (ninS (Nat.ne_of_lt od_su_ki) (ninS (Nat.ne_of_lt od_su_na) (ninS (Nat.ne_of_lt od_su_de) (ninS (Nat.ne_of_lt od_su_pa) (ninS (Nat.ne_of_lt od_su_sb) (ninS (Nat.ne_of_lt od_su_op) nin0))))))))
                  have I1873 := I1807.keep K1842 (ninS (Nat.ne_of_lt od_sa_pg) (ninS (Nat.ne_of_lt od_sa_ga) (ninS (Nat.ne_of_lt od_sa_ki) (ninS (Nat.ne_of_lt od_sa_na) (ninS (Nat.ne_of_lt od_sa_de) (ninS (Nat.ne_of_lt od_sa_pa) (ninS (Nat.ne_of_lt od_sa_sb) (ninS (Nat.ne_of_lt od_sa_op) nin0))))))))
                  have E1874 := E1808.keep K1842
                  have E1875 := E1809.keep K1842
                  have I1876 := I1810.keep K1842 (ninS (Nat.ne_of_gt od_pg_ag) (ninS (Nat.ne_of_gt od_ga_ag) (ninS (Nat.ne_of_lt od_ag_ki) (ninS (Nat.ne_of_lt od_ag_na) (ninS (Nat.ne_of_lt od_ag_de) (ninS (Nat.ne_of_lt od_ag_pa) (ninS (Nat.ne_of_lt od_ag_sb) (ninS (Nat.ne_of_lt od_ag_op) nin0))))))))
                  obtain ⟨F1877, F1878, F1879, F1880, F1881, F1882, F1883, F1884, F1885, F1886, F1887, F1888, F1889, F1890, F1891, F1892, F1893, F1894⟩ := N1844
                  obtain ⟨F1895, F1896, F1897, F1898, F1899, F1900, F1901, F1902⟩ := N1845
                  rw [own_lsS (by decide)] at F1896
                  refine K.iload d0_357 rfl ?_
                  refine K.iconst (4 : Int32) d0_359 rfl ?_
                  refine K.ic_lt d0_360 (fun u => absurd u (by decide)) (fun _ => ?_)
                  refine K.aload d0_363 rfl rfl ?_
                  refine K.iload d0_365 rfl ?_
                  refine K.iconst (0 : Int32) d0_367 rfl ?_
                  refine K.iloadN d0_368 rfl ?_
                  refine K.bipush (11 : Int32) d0_369 rfl ?_
                  refine K.iushr d0_371 ?_
                  refine K.iconst (1 : Int32) d0_372 rfl ?_
                  refine K.iand d0_373 ?_
                  refine cut (P := ∀ z1903 : Int32, z1903 = (if (((sh.toUInt32 >>> ((11 : Int32) &&& 31).toUInt32).toInt32) &&& (1 : Int32)) = 0 then 0 else 1) → Wk E h1840 15 79 382 #[.val (.int sh), .val (.int ba), .val (.int fi), .val (.int qu), .val (.int cn), .val (.int (Int32.ofNat 4)), .val (.int b), .val (.int st), .val (.int o0), .val (.int o1), .val (.int o2), .val (.int o3), .val (.int (e 0)), .val (.int (e 1)), .val (.int (e 2)), .val (.int (e 3)), .val (.int (own_mn (own_mn (own_mn (e 0) (e 1)) (e 2)) (e 3))), .val (.int (e 3)), .val (.int dd), .val (.int lv), .val (.ref be), .val (.ref su), .val (.ref pg), .unset] [.int z1903, .int (0 : Int32), .int (e 3), .ref pg]) (fun J1904 => ?_) ?_
                  · refine K.if_eq d0_374 (fun hc1905 => ?_) (fun hc1905 => ?_)
                    · refine K.iconst (0 : Int32) d0_381 rfl ?_
                      exact J1904 _ (if_pos hc1905).symm
                    · refine K.iconst (1 : Int32) d0_377 rfl ?_
                      refine K.goto d0_378 ?_
                      exact J1904 _ (if_neg hc1905).symm
                  intro z1903 hz1903
                  as_aux_lemma =>
                    refine K.callV (a := pg) [.int (e 3), .int (0 : Int32), .int z1903] [] 0 15 79 d0_382 (wd107 hw) (wd108 hw) (wd110 hw) (wd109 hw) (wd53 hw) (wd111 hw) (by decide) (rmEL l Z a0 hw ek aq cq pq oq kd su sa pg ga ag op ki na de pa sb fd st 3 4 (.ref ek) (e 2) ob3 oc3 (own_mn (own_mn (e 0) (e 1)) (e 2)) (.ref ek) (e 2) e fn1851 fn1852 fn1853 fn1854 g3 z1903 h1840 n0 PO gpg ⟨S1855, S1856, S1857, S1858, S1859, S1860, I1861, E1862, F1863, hfd, hna, hnc, hnp⟩ E1874 E1875 ⟨F1877, F1878, F1879, F1880, F1881, F1882, F1883, F1884, F1885, F1886, F1887, F1888, F1889, F1890, F1891, F1892, F1893, F1894⟩ ⟨F1895, F1896, F1897, F1898, F1899, F1900, F1901, F1902⟩ N1846 N1847 N1848 N1849 N1850 (by decide) (by decide) (own_ne1 he3a) A1843 (own_st hs1 hs2 (by decide)) (by omega) (by omega) hob3 (by omega) hoc3 hg3) E1874 rfl (lenOf pd_24 rfl) rfl (Nat.le_of_eq rfl) (by decide) (by decide) rfl rfl (by decide) (by decide) (goU fun h1906 q1907 => ?_)
                    obtain ⟨K1908, ob4, oc4, g4, hoc4, hob4, heq4, hg4, A1909, N1910, N1911, ⟨fn1917, N1912⟩, ⟨fn1918, N1913⟩, N1914, ⟨fn1919, N1915⟩, ⟨fn1920, N1916⟩⟩ := q1907
                    have S1921 := staK S1855 K1908 (allS (plE E1874) (allS (plE E1875) (allS (plA N1846) (allS (plA N1847) (allS (plA N1848) (allS (plA N1849) (allS (plA N1850) (allS (plA A1843) all0))))))))
                    have S1922 := staK S1856 K1908 (allS (plE E1874) (allS (plE E1875) (allS (plA N1846) (allS (plA N1847) (allS (plA N1848) (allS (plA N1849) (allS (plA N1850) (allS (plA A1843) all0))))))))
                    have S1923 := staK S1857 K1908 (allS (plE E1874) (allS (plE E1875) (allS (plA N1846) (allS (plA N1847) (allS (plA N1848) (allS (plA N1849) (allS (plA N1850) (allS (plA A1843) all0))))))))
                    have S1924 := staK S1858 K1908 (allS (plE E1874) (allS (plE E1875) (allS (plA N1846) (allS (plA N1847) (allS (plA N1848) (allS (plA N1849) (allS (plA N1850) (allS (plA A1843) all0))))))))
                    have S1925 := staK S1859 K1908 (allS (plE E1874) (allS (plE E1875) (allS (plA N1846) (allS (plA N1847) (allS (plA N1848) (allS (plA N1849) (allS (plA N1850) (allS (plA A1843) all0))))))))
                    have S1926 := staK S1860 K1908 (allS (plE E1874) (allS (plE E1875) (allS (plA N1846) (allS (plA N1847) (allS (plA N1848) (allS (plA N1849) (allS (plA N1850) (allS (plA A1843) all0))))))))
                    have I1927 := I1861.keep K1908 (ninS (Nat.ne_of_lt od_kd_pg) (ninS (Nat.ne_of_lt od_kd_ga) (ninS (Nat.ne_of_lt od_kd_ki) (ninS (Nat.ne_of_lt od_kd_na) (ninS (Nat.ne_of_lt od_kd_de) (ninS (Nat.ne_of_lt od_kd_pa) (ninS (Nat.ne_of_lt od_kd_sb) (ninS (Nat.ne_of_lt od_kd_op) nin0))))))))
                    have E1928 := E1862.keep K1908
                    have F1929 := F1863.keep K1908 (ninS (Nat.ne_of_lt od_ek_pg) (ninS (Nat.ne_of_lt od_ek_ga) (ninS (Nat.ne_of_lt od_ek_ki) (ninS (Nat.ne_of_lt od_ek_na) (ninS (Nat.ne_of_lt od_ek_de) (ninS (Nat.ne_of_lt od_ek_pa) (ninS (Nat.ne_of_lt od_ek_sb) (ninS (Nat.ne_of_lt od_ek_op) nin0))))))))
                    have E1930 := E1864.keep K1908
                    have F1931 := F1865.keep K1908 (ninS (Nat.ne_of_lt od_su_pg) (ninS (Nat.ne_of_lt od_su_ga) (ninS (Nat.ne_of_lt od_su_ki) (ninS (Nat.ne_of_lt od_su_na) (ninS (Nat.ne_of_lt od_su_de) (ninS (Nat.ne_of_lt od_su_pa) (ninS (Nat.ne_of_lt od_su_sb) (ninS (Nat.ne_of_lt od_su_op) nin0))))))))
                    have F1932 := F1866.keep K1908 (ninS (Nat.ne_of_lt od_su_pg) (ninS (Nat.ne_of_lt od_su_ga) (ninS (Nat.ne_of_lt od_su_ki) (ninS (Nat.ne_of_lt od_su_na) (ninS (Nat.ne_of_lt od_su_de) (ninS (Nat.ne_of_lt od_su_pa) (ninS (Nat.ne_of_lt od_su_sb) (ninS (Nat.ne_of_lt od_su_op) nin0))))))))
                    have F1933 := F1867.keep K1908 (ninS (Nat.ne_of_lt od_su_pg) (ninS (Nat.ne_of_lt od_su_ga) (ninS (Nat.ne_of_lt od_su_ki) (ninS (Nat.ne_of_lt od_su_na) (ninS (Nat.ne_of_lt od_su_de) (ninS (Nat.ne_of_lt od_su_pa) (ninS (Nat.ne_of_lt od_su_sb) (ninS (Nat.ne_of_lt od_su_op) nin0))))))))
                    have F1934 := F1868.keep K1908 (ninS (Nat.ne_of_lt od_su_pg) (ninS (Nat.ne_of_lt od_su_ga) (ninS (Nat.ne_of_lt od_su_ki) (ninS (Nat.ne_of_lt od_su_na) (ninS (Nat.ne_of_lt od_su_de) (ninS (Nat.ne_of_lt od_su_pa) (ninS (Nat.ne_of_lt od_su_sb) (ninS (Nat.ne_of_lt od_su_op) nin0))))))))
                    have F1935 := F1869.keep K1908 (ninS (Nat.ne_of_lt od_su_pg) (ninS (Nat.ne_of_lt od_su_ga) (ninS (Nat.ne_of_lt od_su_ki) (ninS (Nat.ne_of_lt od_su_na) (ninS (Nat.ne_of_lt od_su_de) (ninS (Nat.ne_of_lt od_su_pa) (ninS (Nat.ne_of_lt od_su_sb) (ninS (Nat.ne_of_lt od_su_op) nin0))))))))
                    have F1936 := F1870.keep K1908 (ninS (Nat.ne_of_lt od_su_pg) (ninS (Nat.ne_of_lt od_su_ga) (ninS (Nat.ne_of_lt od_su_ki) (ninS (Nat.ne_of_lt od_su_na) (ninS (Nat.ne_of_lt od_su_de) (ninS (Nat.ne_of_lt od_su_pa) (ninS (Nat.ne_of_lt od_su_sb) (ninS (Nat.ne_of_lt od_su_op) nin0))))))))
                    have F1937 := F1871.keep K1908 (ninS (Nat.ne_of_lt od_su_pg) (ninS (Nat.ne_of_lt od_su_ga) (ninS (Nat.ne_of_lt od_su_ki) (ninS (Nat.ne_of_lt od_su_na) (ninS (Nat.ne_of_lt od_su_de) (ninS (Nat.ne_of_lt od_su_pa) (ninS (Nat.ne_of_lt od_su_sb) (ninS (Nat.ne_of_lt od_su_op) nin0))))))))
                    have F1938 := F1872.keep K1908 (ninS (Nat.ne_of_lt od_su_pg) (ninS (Nat.ne_of_lt od_su_ga) (ninS (Nat.ne_of_lt od_su_ki) (ninS (Nat.ne_of_lt od_su_na) (ninS (Nat.ne_of_lt od_su_de) (ninS (Nat.ne_of_lt od_su_pa) (ninS (Nat.ne_of_lt od_su_sb) (ninS (Nat.ne_of_lt od_su_op) nin0))))))))
                    have I1939 := I1873.keep K1908 (ninS (Nat.ne_of_lt od_sa_pg) (ninS (Nat.ne_of_lt od_sa_ga) (ninS (Nat.ne_of_lt od_sa_ki) (ninS (Nat.ne_of_lt od_sa_na) (ninS (Nat.ne_of_lt od_sa_de) (ninS (Nat.ne_of_lt od_sa_pa) (ninS (Nat.ne_of_lt od_sa_sb) (ninS (Nat.ne_of_lt od_sa_op) nin0))))))))
                    have E1940 := E1874.keep K1908
                    have E1941 := E1875.keep K1908
                    have I1942 := I1876.keep K1908 (ninS (Nat.ne_of_gt od_pg_ag) (ninS (Nat.ne_of_gt od_ga_ag) (ninS (Nat.ne_of_lt od_ag_ki) (ninS (Nat.ne_of_lt od_ag_na) (ninS (Nat.ne_of_lt od_ag_de) (ninS (Nat.ne_of_lt od_ag_pa) (ninS (Nat.ne_of_lt od_ag_sb) (ninS (Nat.ne_of_lt od_ag_op) nin0))))))))
                    obtain ⟨F1943, F1944, F1945, F1946, F1947, F1948, F1949, F1950, F1951, F1952, F1953, F1954, F1955, F1956, F1957, F1958, F1959, F1960⟩ := N1910
                    obtain ⟨F1961, F1962, F1963, F1964, F1965, F1966, F1967, F1968⟩ := N1911
                    rw [own_lsS (by decide)] at F1962
                    as_aux_lemma =>
                      refine K.aload d0_385 rfl rfl ?_
                      refine K.callV (a := pg) [] [] 0 19 111 d0_387 (wd171 hw) (wd172 hw) (wd174 hw) (wd173 hw) (wd53 hw) (wd175 hw) (by decide) (rmEN l Z a0 hw ek aq cq pq oq kd su sa pg ga ag op ki na de pa sb fd st 4 (e 3) ob4 (Int32.ofNat oc4) (own_mn (own_mn (own_mn (e 0) (e 1)) (e 2)) (e 3)) (e 3) e h1906 n0 PO gpg ⟨S1921, S1922, S1923, S1924, S1925, S1926, I1927, E1928, F1929, hfd, hna, hnc, hnp⟩ E1940 E1941 E1930 ⟨F1943, F1944, F1945, F1946, F1947, F1948, F1949, F1950, F1951, F1952, F1953, F1954, F1955, F1956, F1957, F1958, F1959, F1960⟩ ⟨F1961, F1962, F1963, F1964, F1965, F1966, F1967, F1968⟩ ⟨F1931, F1932, F1933, F1934, F1935, F1936, F1937, F1938⟩ I1942 I1939 N1914 (by decide) (by decide) (fun j hj => hmx j (by omega))) E1940 rfl (lenOf pd_2 rfl) rfl (Nat.le_of_eq rfl) (by decide) (by decide) rfl rfl (by decide) (by decide) (goU fun h1969 q1970 => ?_)
                      obtain ⟨K1971, tt, m, w, hm1, hm4, PM, FS, FD, FT, AT_, AD_⟩ := q1970
                      have EP := E1940.keep K1971
                      refine K.iload d0_390 rfl ?_
                      refine K.iconst (4 : Int32) d0_392 rfl ?_
                      as_aux_lemma =>
                        refine cut (P := ∀ (z : Int32) (r : Nat), z = Int32.ofNat r → r < 4 → ¬ dd < e r → (∀ x, r < x → x < 4 → dd < e x) → Wk E h1969 19 111 450 #[.val (.int sh), .val (.int ba), .val (.int fi), .val (.int qu), .val (.int cn), .val (.int (Int32.ofNat 4)), .val (.int b), .val (.int st), .val (.int o0), .val (.int o1), .val (.int o2), .val (.int o3), .val (.int (e 0)), .val (.int (e 1)), .val (.int (e 2)), .val (.int (e 3)), .val (.int (own_mn (own_mn (own_mn (e 0) (e 1)) (e 2)) (e 3))), .val (.int (e 3)), .val (.int dd), .val (.int lv), .val (.ref be), .val (.ref su), .val (.ref pg), .val (.int z)] []) (fun J1972 => ?_) ?_
                        · refine K.ic_lt d0_393 (fun u => absurd u (by decide)) (fun _ => ?_)
                          refine K.iload d0_396 rfl ?_
                          refine K.iload d0_398 rfl ?_
                          refine K.ic_gt d0_400 (fun hc1973 => ?_) (fun hc1973 => ?_)
                          · refine K.iload d0_409 rfl ?_
                            refine K.iconst (3 : Int32) d0_411 rfl ?_
                            refine K.ic_lt d0_412 (fun u => absurd u (by decide)) (fun _ => ?_)
                            refine K.iload d0_415 rfl ?_
                            refine K.iload d0_417 rfl ?_
                            refine K.ic_gt d0_419 (fun hc1974 => ?_) (fun hc1974 => ?_)
                            · refine K.iload d0_428 rfl ?_
                              refine K.iconst (2 : Int32) d0_430 rfl ?_
                              refine K.ic_lt d0_431 (fun u => absurd u (by decide)) (fun _ => ?_)
                              refine K.iload d0_434 rfl ?_
                              refine K.iload d0_436 rfl ?_
                              refine K.ic_gt d0_438 (fun hc1975 => ?_) (fun hc1975 => ?_)
                              · refine K.iconst (0 : Int32) d0_447 rfl ?_
                                refine K.istore #[.val (.int sh), .val (.int ba), .val (.int fi), .val (.int qu), .val (.int cn), .val (.int (Int32.ofNat 4)), .val (.int b), .val (.int st), .val (.int o0), .val (.int o1), .val (.int o2), .val (.int o3), .val (.int (e 0)), .val (.int (e 1)), .val (.int (e 2)), .val (.int (e 3)), .val (.int (own_mn (own_mn (own_mn (e 0) (e 1)) (e 2)) (e 3))), .val (.int (e 3)), .val (.int dd), .val (.int lv), .val (.ref be), .val (.ref su), .val (.ref pg), .val (.int (0 : Int32))] d0_448 rfl ?_
                                exact J1972 _ 0 rfl (by decide) (fun q => hdd (own_lmn (own_lmn (own_lmn q hc1975) hc1974) hc1973)) (fun x h1 h2 => by rcases (show x = 1 ∨ x = 2 ∨ x = 3 by omega) with rfl | rfl | rfl <;> assumption)
                              · refine K.iconst (1 : Int32) d0_441 rfl ?_
                                refine K.istore #[.val (.int sh), .val (.int ba), .val (.int fi), .val (.int qu), .val (.int cn), .val (.int (Int32.ofNat 4)), .val (.int b), .val (.int st), .val (.int o0), .val (.int o1), .val (.int o2), .val (.int o3), .val (.int (e 0)), .val (.int (e 1)), .val (.int (e 2)), .val (.int (e 3)), .val (.int (own_mn (own_mn (own_mn (e 0) (e 1)) (e 2)) (e 3))), .val (.int (e 3)), .val (.int dd), .val (.int lv), .val (.ref be), .val (.ref su), .val (.ref pg), .val (.int (1 : Int32))] d0_442 rfl ?_
                                refine K.goto d0_444 ?_
                                exact J1972 _ 1 rfl (by decide) hc1975 (fun x h1 h2 => by rcases (show x = 2 ∨ x = 3 by omega) with rfl | rfl <;> assumption)
                            · refine K.iconst (2 : Int32) d0_422 rfl ?_
                              refine K.istore #[.val (.int sh), .val (.int ba), .val (.int fi), .val (.int qu), .val (.int cn), .val (.int (Int32.ofNat 4)), .val (.int b), .val (.int st), .val (.int o0), .val (.int o1), .val (.int o2), .val (.int o3), .val (.int (e 0)), .val (.int (e 1)), .val (.int (e 2)), .val (.int (e 3)), .val (.int (own_mn (own_mn (own_mn (e 0) (e 1)) (e 2)) (e 3))), .val (.int (e 3)), .val (.int dd), .val (.int lv), .val (.ref be), .val (.ref su), .val (.ref pg), .val (.int (2 : Int32))] d0_423 rfl ?_
                              refine K.goto d0_425 ?_
                              exact J1972 _ 2 rfl (by decide) hc1974 (fun x h1 h2 => by rcases (show x = 3 by omega) with rfl <;> assumption)
                          · refine K.iconst (3 : Int32) d0_403 rfl ?_
                            refine K.istore #[.val (.int sh), .val (.int ba), .val (.int fi), .val (.int qu), .val (.int cn), .val (.int (Int32.ofNat 4)), .val (.int b), .val (.int st), .val (.int o0), .val (.int o1), .val (.int o2), .val (.int o3), .val (.int (e 0)), .val (.int (e 1)), .val (.int (e 2)), .val (.int (e 3)), .val (.int (own_mn (own_mn (own_mn (e 0) (e 1)) (e 2)) (e 3))), .val (.int (e 3)), .val (.int dd), .val (.int lv), .val (.ref be), .val (.ref su), .val (.ref pg), .val (.int (3 : Int32))] d0_404 rfl ?_
                            refine K.goto d0_406 ?_
                            exact J1972 _ 3 rfl (by decide) hc1973 (fun x h1 h2 => absurd h2 (by omega))
                        intro z r hz hr hz1 hz2
                        obtain ⟨jr, hjr, ejr, H⟩ := PM.find hr hz1 hz2
                        refine K.aload d0_450 rfl rfl ?_
                        refine K.iload d0_452 rfl ?_
                        refine K.callV (a := pg) [.int dd] [] 0 19 111 d0_454 (wd224 hw) (wd225 hw) (wd227 hw) (wd226 hw) (wd53 hw) (wd228 hw) (by decide) (rmLA l Z a0 hw pg de tt st dd 4 m jr e (fun j => Int32.ofNat (4 - 1 - w (m - 1 - j))) (fun j => 4 - 1 - w (m - 1 - j)) h1969 n0 FS FD FT AD_ AT_ (by decide) hm1 hm4 (fun j hj => ⟨rfl, (by show 4 - 1 - _ < 4; omega)⟩) hjr H) EP rfl (lenOf pd_16 rfl) rfl (Nat.le_of_eq rfl) (by decide) (by decide) rfl rfl (by decide) (by decide) (goP ?_)
                        refine K.iload d0_457 rfl ?_
                        refine K.iload d0_459 rfl ?_
                        refine K.iadd d0_461 ?_
                        refine K.ic_ne d0_462 (fun _ => ?_) (fun u => absurd (by show st + Int32.ofNat (4 - 1 - w (m - 1 - jr)) = st + z; rw [ejr, hz]) u)
                        refine K.iconst (1 : Int32) d0_465 rfl ?_
                        refine K.goto d0_466 ?_
                        exact K.ireturn d0_470 (Or.inr (Or.inl rfl)) rfl (by decide) (by decide) rfl
set_option maxRecDepth 65536 in
set_option maxHeartbeats 40000000 in
theorem comes_1 {Post : Tables → Env → Array Value → State → Outcome → State → Prop} (hpost : ∀ tb e args s v u, (limb_1_1.after args s (.returned v) u = true ∧ limb_1_2.after args s (.returned v) u = true ∧ True) → FrameEnd s (.returned v) u (Jvm.fieldLocs frame_1_writes args s ++ Jvm.arrayLocs frame_1_arrays args s ++ Jvm.staticLocs frame_1_statics s) 48 320 → Post tb e args s (.returned v) u) :
    ArmFor flags0 classFile x code maxLocals ret World_1 tables_1 room_1 Calls_1 rest_1 Pre_1 Post := by
  intro l hfl _ _ p e ha hc hk s m args below hf hA hF happ hP
  obtain ⟨hcalls, hrest, hpre⟩ := hP
  obtain ⟨-, -, -, hnamed, -, -, -, hat⟩ := (Spec.applies_iff hf).mp happ
  obtain ⟨hg, hn⟩ := and_e (Cond.before_iff.mp (show (Jvm.Cond.and given_1 narrow_1).before args s = true from hpre))
  obtain ⟨hcount, hk0⟩ := and_e hg
  obtain ⟨ha0, hk1⟩ := and_e hk0
  obtain ⟨ha1, hk2⟩ := and_e hk1
  obtain ⟨ha2, hk3⟩ := and_e hk2
  obtain ⟨ha3, hk4⟩ := and_e hk3
  obtain ⟨w0, w1, w2, w3, w4, rfl⟩ : ∃ w0 w1 w2 w3 w4 : Value, args = #[w0, w1, w2, w3, w4] := by
    have hs : args.size = 5 := by simpa [Cond.value, given_1] using hcount
    obtain ⟨L⟩ := args
    match L, hs with
    | [w0, w1, w2, w3, w4], _ => exact ⟨w0, w1, w2, w3, w4, rfl⟩
  have hw := fun d (hd : d ∈ tables_1) => atoms_spec (ws := Jvm.Cond.code x code maxLocals ret :: tables_1) hat d (List.mem_cons_of_mem _ hd)
  obtain ⟨i0, e0⟩ := is_v ha0
  obtain rfl : w0 = (.int i0) := Option.some.inj e0
  obtain ⟨i1, e1⟩ := is_v ha1
  obtain rfl : w1 = (.int i1) := Option.some.inj e1
  obtain ⟨i2, e2⟩ := is_v ha2
  obtain rfl : w2 = (.int i2) := Option.some.inj e2
  obtain ⟨i3, e3⟩ := is_v ha3
  obtain rfl : w3 = (.int i3) := Option.some.inj e3
  obtain ⟨i4, e4⟩ := is_v hk4
  obtain rfl : w4 = (.int i4) := Option.some.inj e4
  obtain ⟨c0, n0⟩ := and_e hn
  obtain ⟨c1, n1⟩ := and_e n0
  obtain ⟨c2, n2⟩ := and_e n1
  obtain ⟨c3, n3⟩ := and_e n2
  obtain ⟨c4, n4⟩ := and_e n3
  obtain ⟨c5, n5⟩ := and_e n4
  obtain ⟨c6, n6⟩ := and_e n5
  obtain ⟨c7, n7⟩ := and_e n6
  obtain ⟨c8, n8⟩ := and_e n7
  obtain ⟨c9, n9⟩ := and_e n8
  obtain ⟨c10, n10⟩ := and_e n9
  obtain ⟨c11, n11⟩ := and_e n10
  obtain ⟨c12, n12⟩ := and_e n11
  obtain ⟨c13, n13⟩ := and_e n12
  obtain ⟨c14, n14⟩ := and_e n13
  obtain ⟨c15, n15⟩ := and_e n14
  obtain ⟨c16, n16⟩ := and_e n15
  obtain ⟨c17, n17⟩ := and_e n16
  obtain ⟨c18, n18⟩ := and_e n17
  obtain ⟨c19, n19⟩ := and_e n18
  obtain ⟨ekx, v0⟩ := exa_v c0
  have S0 : Sta s s.heap "com/example/horatius/horatius/core/NodeKind" "ELEMENT" "Lcom/example/horatius/horatius/core/NodeKind;" (.ref ekx) := Sta.start v0 (Or.inr ⟨(wd11 hw), (wd12 hw)⟩)
  obtain ⟨aqx, v1⟩ := exa_v c5
  have S1 : Sta s s.heap "com/example/horatius/horatius/core/NodeKind" "ATTRIBUTE" "Lcom/example/horatius/horatius/core/NodeKind;" (.ref aqx) := Sta.start v1 (Or.inr ⟨(wd11 hw), (wd156 hw)⟩)
  obtain ⟨cqx, v2⟩ := exa_v c8
  have S2 : Sta s s.heap "com/example/horatius/horatius/core/NodeKind" "COMMENT" "Lcom/example/horatius/horatius/core/NodeKind;" (.ref cqx) := Sta.start v2 (Or.inr ⟨(wd11 hw), (wd168 hw)⟩)
  obtain ⟨pqx, v3⟩ := exa_v c10
  have S3 : Sta s s.heap "com/example/horatius/horatius/core/NodeKind" "PROCESSING_INSTRUCTION" "Lcom/example/horatius/horatius/core/NodeKind;" (.ref pqx) := Sta.start v3 (Or.inr ⟨(wd11 hw), (wd170 hw)⟩)
  obtain ⟨oqx, v4⟩ := exa_v c7
  have S4 : Sta s s.heap "com/example/horatius/horatius/core/AttributeType" "OTHER" "Lcom/example/horatius/horatius/core/AttributeType;" (.ref oqx) := Sta.start v4 (Or.inr ⟨(wd158 hw), (wd159 hw)⟩)
  have E0 := Exa.start v0 c0
  have O0 : Fld s s.heap ekx "java/lang/Enum" "ordinal" "I" (.int 1) := Fld.start ((fld_at v0).symm.trans (eqv_i (Term.int_eval (1)) c1))
  have O1 : Fld s s.heap aqx "java/lang/Enum" "ordinal" "I" (.int 2) := Fld.start ((fld_at v1).symm.trans (eqv_i (Term.int_eval (2)) c6))
  have O2 : Fld s s.heap cqx "java/lang/Enum" "ordinal" "I" (.int 4) := Fld.start ((fld_at v2).symm.trans (eqv_i (Term.int_eval (4)) c9))
  have O3 : Fld s s.heap pqx "java/lang/Enum" "ordinal" "I" (.int 5) := Fld.start ((fld_at v3).symm.trans (eqv_i (Term.int_eval (5)) c11))
  obtain ⟨kdx, v5⟩ := arr_v c2
  have S5 : Sta s s.heap "com/example/horatius/horatius/core/OutlinePage" "KINDS" "[Lcom/example/horatius/horatius/core/NodeKind;" (.ref kdx) := Sta.start v5 (Or.inr ⟨(wd53 hw), (wd144 hw)⟩)
  obtain ⟨cl, A⟩ := Arr.start v5 c2
  obtain ⟨fdx, hIa, hfd⟩ := own_kinds v5 A (eqv_i (Term.int_eval (6)) c3) (own_eqr v0 c4)
  have PT : Stt s s.heap ekx aqx cqx pqx oqx kdx fdx := ⟨S0, S1, S2, S3, S4, S5, ⟨cl, hIa⟩, E0, O0, hfd, Fld.ne O0 O1 (by decide), Fld.ne O0 O2 (by decide), Fld.ne O0 O3 (by decide)⟩
  obtain ⟨n, o, h1, h2, h3, _, L, rfl, ⟨rfl, N⟩, hq⟩ := rm0 l s _ hw i0 i1 i2 i3 i4 ekx aqx cqx pqx oqx kdx fdx s.heap s.heap.size PT (Nat.le_refl _) tables_1 p e ha hc hk s m _ below hf ((Spec.applies_iff_loose hf).mp happ).1 ⟨rfl, State.Warmed39.refl s, rfl⟩ trivial
  refine ⟨n, _, h1, h2, h3, hpost _ _ _ _ _ _ ⟨Cond.after_iff.mpr rfl, Cond.after_iff.mpr (eq_i res_at (Term.int_eval (1)) rfl), trivial⟩ ⟨hq.1, hq.2.1, (hq.2.2.sift fun y hy => Or.inr (N y hy)).mono (by decide) (by decide)⟩⟩
theorem main_1_1 : Claimed_1_1 := comes_1 fun _ _ _ _ _ _ h hF => ⟨h.1, hF⟩
theorem main_1_2 : Claimed_1_2 := comes_1 fun _ _ _ _ _ _ h hF => ⟨h.2.1, hF⟩
end Jvm.Pilot.@@N@@
namespace Jvm.Pilot.@@N@@
open Jvm Jvm.ClassFile Sem Op Lib Jvm.Free Jvm.Stand Jvm.Pilot.@@N@@.Jvm.D
/-! MADE BY PROGRAM (witnessworld.py) out of the Statement's table words and the real class files: 22 classes; the members and pool entries that the words name. The judged class is class 1, her method 1. -/
namespace start1
open Jvm.ClassFile
def u (s : String) : CpInfo := .utf8 (stringToUtf16 s)
/-- a pool by its gaps: so many unusable entries, then the entry; so many at the end -/
def gap : Nat → List CpInfo → List CpInfo
  | 0, r => r
  | n + 1, r => .unusable :: gap n r
def poolList (es : List (Nat × CpInfo)) (last : Nat) : List CpInfo := es.foldr (fun e r => gap e.1 (e.2 :: r)) (gap last [])
def pool (es : List (Nat × CpInfo)) (last : Nat) : Array CpInfo := ⟨poolList es last⟩
def fileOf (pool : Array CpInfo) (this : Nat) (attrs : Array Attribute := #[]) (ms : Array MethodInfo := #[]) (fl : Nat := 33) (sup : Nat := 0) (ifs : Array Nat := #[]) (fds : Array FieldInfo := #[]) : ClassFile where
  minorVersion := 0
  majorVersion := 65
  constantPool := pool
  accessFlags := fl
  thisClass := this
  superClass := sup
  interfaces := ifs
  fields := fds
  methods := ms
  attributes := attrs
def plain (name : String) (sup : Option ClassId) : Class where
  name := name
  kind := .ordinary
  loader := none
  accessFlags := 33
  super := sup
  interfaces := #[]
  cf := none
  fields := #[]
  methods := #[]
  instanceTypes := #[]
  staticTypes := #[]
  resolved := #[]
  callSites := []
  init := .initialized
  statics := none
  mirror := none

def pool0 : Array CpInfo := pool [(5, u "<init>"), (0, u "()V"), (1, .class_ 10), (1, u "java/lang/Object"), (85, u "clone"), (0, u "()Ljava/lang/Object;")] 26

def k0c0 : Code := { maxStack := 0, maxLocals := 1, code := object_method_1_code, exceptionTable := #[], attributes := #[] }
def k0m0 : Method := { name := "<init>", desc := "()V", sig := { parameters := [], returnType := none }, accessFlags := 1, code := some k0c0 }
def k0m1 : Method := { name := "clone", desc := "()Ljava/lang/Object;", sig := { parameters := [], returnType := some (.object "java/lang/Object") }, accessFlags := 260, code := none }
/-- java/lang/Object -/
def k0 : Class := { plain "java/lang/Object" none with
  accessFlags := 33
  interfaces := #[]
  cf := some (fileOf pool0 8 #[] #[{ accessFlags := 1, nameIndex := 5, descriptorIndex := 6, attributes := #[] }, { accessFlags := 260, nameIndex := 96, descriptorIndex := 97, attributes := #[] }] 33 0 #[] #[])
  fields := #[]
  methods := #[k0m0, k0m1]
  instanceTypes := #[]
  staticTypes := #[]
  resolved := Array.replicate 124 none
  statics := none }

def pool1 : Array CpInfo := pool [(2, .class_ 4), (1, u "java/lang/Object"), (0, u "<init>"), (0, u "()V"), (0, .integer 2147483647), (2, .integer 2147483629), (0, .integer 2147483638), (0, .methodref 13 14), (0, .class_ 15), (0, .nameAndType 16 17), (0, u "java/lang/Math"), (0, u "min"), (0, u "(II)I"), (0, .class_ 19), (0, u "com/example/horatius/horatius/core/PageSummary"), (0, .fieldref 21 22), (0, .class_ 23), (0, .nameAndType 24 25), (0, u "com/example/horatius/horatius/core/NodeKind"), (0, u "ELEMENT"), (0, u "Lcom/example/horatius/horatius/core/NodeKind;"), (0, .methodref 18 27), (0, .nameAndType 5 28), (0, u "(IILcom/example/horatius/horatius/core/NodeKind;III[I)V"), (0, .class_ 30), (0, u "com/example/horatius/horatius/core/OutlinePage"), (0, .methodref 29 32), (0, .nameAndType 5 33), (0, u "(IILcom/example/horatius/horatius/core/PageSummary;Lcom/example/horatius/horatius/core/PageSummary;I)V"), (0, .methodref 29 35), (0, .nameAndType 36 37), (0, u "addElement"), (0, u "(IIZ)V"), (0, .methodref 29 39), (0, .nameAndType 40 6), (0, u "end"), (0, .methodref 29 42), (0, .nameAndType 43 44), (0, u "lastAtOrAbove"), (0, u "(I)I"), (0, .class_ 46), (0, u "com/example/horatius/horatius/core/OutlinePageLastAtOrAbovePinLaw"), (2, u "law"), (0, u "(IIIII)Z")] 3

def k1m0 : Method := { name := "<init>", desc := "()V", sig := { parameters := [], returnType := none }, accessFlags := 1, code := none }
def k1c1 : Code := { maxStack := 9, maxLocals := 24, code := code, exceptionTable := #[], attributes := #[] }
def k1m1 : Method := { name := "law", desc := "(IIIII)Z", sig := { parameters := [.int, .int, .int, .int, .int], returnType := some .boolean }, accessFlags := 9, code := some k1c1 }
/-- com/example/horatius/horatius/core/OutlinePageLastAtOrAbovePinLaw -/
def k1 : Class := { plain "com/example/horatius/horatius/core/OutlinePageLastAtOrAbovePinLaw" (some 0) with
  accessFlags := 49
  interfaces := #[]
  cf := some (fileOf pool1 45 #[] #[{ accessFlags := 1, nameIndex := 5, descriptorIndex := 6, attributes := #[] }, { accessFlags := 9, nameIndex := 49, descriptorIndex := 50, attributes := #[] }] 49 2 #[] #[])
  fields := #[]
  methods := #[k1m0, k1m1]
  instanceTypes := #[]
  staticTypes := #[]
  resolved := Array.replicate 54 none
  statics := none }

def pool2 : Array CpInfo := pool [(1, .class_ 2), (0, u "java/lang/Math"), (1, .class_ 6), (1, u "java/lang/Object"), (0, u "<init>"), (0, u "()V"), (89, .class_ 100), (1, u "java/lang/Math$RandomNumberGeneratorHolder"), (71, u "negativeZeroFloatBits"), (0, u "J"), (2, u "negativeZeroDoubleBits"), (24, u "min"), (43, u "$assertionsDisabled"), (0, u "Z"), (88, u "(II)I"), (2, u "twoToTheDoubleScaleDown"), (0, u "D"), (4, u "twoToTheDoubleScaleUp"), (9, u "E"), (3, u "PI"), (2, u "TAU"), (2, u "DEGREES_TO_RADIANS"), (0, u "RADIANS_TO_DEGREES")] 94

def k2m0 : Method := { name := "<init>", desc := "()V", sig := { parameters := [], returnType := none }, accessFlags := 2, code := none }
def k2c1 : Code := { maxStack := 2, maxLocals := 2, code := jdk_29_method_69_code, exceptionTable := #[], attributes := #[] }
def k2m1 : Method := { name := "min", desc := "(II)I", sig := { parameters := [.int, .int], returnType := some .int }, accessFlags := 9, code := some k2c1 }
/-- java/lang/Math -/
def k2 : Class := { plain "java/lang/Math" (some 0) with
  accessFlags := 49
  interfaces := #[]
  cf := some (fileOf pool2 1 #[.nestMembers #[98]] #[{ accessFlags := 2, nameIndex := 7, descriptorIndex := 8, attributes := #[] }, { accessFlags := 9, nameIndex := 201, descriptorIndex := 335, attributes := #[] }] 49 4 #[] #[{ accessFlags := 25, nameIndex := 354, descriptorIndex := 339, attributes := #[] }, { accessFlags := 25, nameIndex := 358, descriptorIndex := 339, attributes := #[] }, { accessFlags := 25, nameIndex := 361, descriptorIndex := 339, attributes := #[] }, { accessFlags := 26, nameIndex := 364, descriptorIndex := 339, attributes := #[] }, { accessFlags := 26, nameIndex := 365, descriptorIndex := 339, attributes := #[] }, { accessFlags := 26, nameIndex := 172, descriptorIndex := 173, attributes := #[] }, { accessFlags := 26, nameIndex := 176, descriptorIndex := 173, attributes := #[] }, { accessFlags := 8, nameIndex := 344, descriptorIndex := 339, attributes := #[] }, { accessFlags := 8, nameIndex := 338, descriptorIndex := 339, attributes := #[] }, { accessFlags := 4120, nameIndex := 245, descriptorIndex := 246, attributes := #[] }])
  fields := #[{ name := "E", type := .double, accessFlags := 25, slot := 0, constantValue := 0 }, { name := "PI", type := .double, accessFlags := 25, slot := 1, constantValue := 0 }, { name := "TAU", type := .double, accessFlags := 25, slot := 2, constantValue := 0 }, { name := "DEGREES_TO_RADIANS", type := .double, accessFlags := 26, slot := 3, constantValue := 0 }, { name := "RADIANS_TO_DEGREES", type := .double, accessFlags := 26, slot := 4, constantValue := 0 }, { name := "negativeZeroFloatBits", type := .long, accessFlags := 26, slot := 5, constantValue := 0 }, { name := "negativeZeroDoubleBits", type := .long, accessFlags := 26, slot := 6, constantValue := 0 }, { name := "twoToTheDoubleScaleUp", type := .double, accessFlags := 8, slot := 7, constantValue := 0 }, { name := "twoToTheDoubleScaleDown", type := .double, accessFlags := 8, slot := 8, constantValue := 0 }, { name := "$assertionsDisabled", type := .boolean, accessFlags := 4120, slot := 9, constantValue := 0 }]
  methods := #[k2m0, k2m1]
  instanceTypes := #[]
  staticTypes := #[.double, .double, .double, .double, .double, .long, .long, .double, .double, .boolean]
  resolved := Array.replicate 460 none
  statics := none }

def pool3 : Array CpInfo := pool [(1, .methodref 2 3), (0, .class_ 4), (0, .nameAndType 5 6), (0, u "java/lang/Object"), (0, u "<init>"), (0, u "()V"), (0, .fieldref 8 9), (0, .class_ 10), (0, .nameAndType 11 12), (0, u "com/example/horatius/horatius/core/PageSummary"), (0, u "asides"), (0, u "[I"), (9, .fieldref 8 23), (0, .nameAndType 24 25), (0, u "nodes"), (0, u "I"), (0, .fieldref 8 27), (0, .nameAndType 28 25), (0, u "leastDepth"), (0, .methodref 30 31), (0, .class_ 32), (0, .nameAndType 33 34), (0, u "java/util/Objects"), (0, u "requireNonNull"), (0, u "(Ljava/lang/Object;)Ljava/lang/Object;"), (0, .class_ 36), (0, u "com/example/horatius/horatius/core/NodeKind"), (0, .fieldref 8 38), (0, .nameAndType 39 40), (0, u "lastKind"), (0, u "Lcom/example/horatius/horatius/core/NodeKind;"), (0, .fieldref 8 42), (0, .nameAndType 43 25), (0, u "lastDepth"), (0, .fieldref 8 45), (0, .nameAndType 46 25), (0, u "topElements"), (0, .fieldref 8 48), (0, .nameAndType 49 25), (0, u "typedAttributes"), (0, .methodref 51 52), (0, .class_ 12), (0, .nameAndType 53 54), (0, u "clone"), (0, u "()Ljava/lang/Object;"), (0, .fieldref 8 56), (0, .nameAndType 57 25), (0, u "asideCount"), (0, .methodref 59 60), (0, .class_ 61), (0, .nameAndType 62 63), (0, u "java/lang/Math"), (0, u "min"), (0, u "(II)I"), (0, .fieldref 35 65), (0, .nameAndType 66 40), (0, u "ELEMENT"), (0, .fieldref 68 69), (0, .class_ 70), (0, .nameAndType 71 72), (0, u "com/example/horatius/horatius/core/AttributeType"), (0, u "OTHER"), (0, u "Lcom/example/horatius/horatius/core/AttributeType;"), (0, .fieldref 35 74), (0, .nameAndType 75 40), (0, u "COMMENT"), (0, .fieldref 35 77), (0, .nameAndType 78 40), (0, u "PROCESSING_INSTRUCTION"), (3, .methodref 83 84), (0, .class_ 85), (0, .nameAndType 86 87), (0, u "java/util/Arrays"), (0, u "copyOf"), (0, u "([II)[I"), (0, .methodref 83 89), (0, .nameAndType 90 91), (0, u "equals"), (0, u "([III[III)Z"), (12, u "(IILcom/example/horatius/horatius/core/NodeKind;III[I)V"), (1, u "add"), (0, u "(Lcom/example/horatius/horatius/core/NodeKind;ILcom/example/horatius/horatius/core/AttributeType;)V"), (0, u "()I"), (0, u "()Lcom/example/horatius/horatius/core/NodeKind;"), (1, u "(Ljava/lang/Object;)Z")] 3

def k3c0 : Code := { maxStack := 2, maxLocals := 1, code := prog_23_method_1_code, exceptionTable := #[], attributes := #[] }
def k3m0 : Method := { name := "<init>", desc := "()V", sig := { parameters := [], returnType := none }, accessFlags := 1, code := some k3c0 }
def k3c1 : Code := { maxStack := 4, maxLocals := 9, code := prog_23_method_2_code, exceptionTable := #[], attributes := #[] }
def k3m1 : Method := { name := "<init>", desc := "(IILcom/example/horatius/horatius/core/NodeKind;III[I)V", sig := { parameters := [.int, .int, (.object "com/example/horatius/horatius/core/NodeKind"), .int, .int, .int, (.array .int)], returnType := none }, accessFlags := 1, code := some k3c1 }
def k3c2 : Code := { maxStack := 5, maxLocals := 4, code := prog_23_method_3_code, exceptionTable := #[], attributes := #[] }
def k3m2 : Method := { name := "add", desc := "(Lcom/example/horatius/horatius/core/NodeKind;ILcom/example/horatius/horatius/core/AttributeType;)V", sig := { parameters := [(.object "com/example/horatius/horatius/core/NodeKind"), .int, (.object "com/example/horatius/horatius/core/AttributeType")], returnType := none }, accessFlags := 1, code := some k3c2 }
def k3c3 : Code := { maxStack := 1, maxLocals := 1, code := prog_23_method_4_code, exceptionTable := #[], attributes := #[] }
def k3m3 : Method := { name := "nodes", desc := "()I", sig := { parameters := [], returnType := some .int }, accessFlags := 1, code := some k3c3 }
def k3c4 : Code := { maxStack := 1, maxLocals := 1, code := prog_23_method_6_code, exceptionTable := #[], attributes := #[] }
def k3m4 : Method := { name := "lastKind", desc := "()Lcom/example/horatius/horatius/core/NodeKind;", sig := { parameters := [], returnType := some (.object "com/example/horatius/horatius/core/NodeKind") }, accessFlags := 1, code := some k3c4 }
def k3c5 : Code := { maxStack := 1, maxLocals := 1, code := prog_23_method_7_code, exceptionTable := #[], attributes := #[] }
def k3m5 : Method := { name := "lastDepth", desc := "()I", sig := { parameters := [], returnType := some .int }, accessFlags := 1, code := some k3c5 }
def k3c6 : Code := { maxStack := 6, maxLocals := 3, code := prog_23_method_11_code, exceptionTable := #[], attributes := #[] }
def k3m6 : Method := { name := "equals", desc := "(Ljava/lang/Object;)Z", sig := { parameters := [(.object "java/lang/Object")], returnType := some .boolean }, accessFlags := 1, code := some k3c6 }
/-- com/example/horatius/horatius/core/PageSummary -/
def k3 : Class := { plain "com/example/horatius/horatius/core/PageSummary" (some 0) with
  accessFlags := 33
  interfaces := #[]
  cf := some (fileOf pool3 8 #[] #[{ accessFlags := 1, nameIndex := 5, descriptorIndex := 6, attributes := #[] }, { accessFlags := 1, nameIndex := 5, descriptorIndex := 104, attributes := #[] }, { accessFlags := 1, nameIndex := 106, descriptorIndex := 107, attributes := #[] }, { accessFlags := 1, nameIndex := 24, descriptorIndex := 108, attributes := #[] }, { accessFlags := 1, nameIndex := 39, descriptorIndex := 109, attributes := #[] }, { accessFlags := 1, nameIndex := 43, descriptorIndex := 108, attributes := #[] }, { accessFlags := 1, nameIndex := 90, descriptorIndex := 111, attributes := #[] }] 33 2 #[] #[{ accessFlags := 2, nameIndex := 24, descriptorIndex := 25, attributes := #[] }, { accessFlags := 2, nameIndex := 28, descriptorIndex := 25, attributes := #[] }, { accessFlags := 2, nameIndex := 39, descriptorIndex := 40, attributes := #[] }, { accessFlags := 2, nameIndex := 43, descriptorIndex := 25, attributes := #[] }, { accessFlags := 2, nameIndex := 46, descriptorIndex := 25, attributes := #[] }, { accessFlags := 2, nameIndex := 49, descriptorIndex := 25, attributes := #[] }, { accessFlags := 2, nameIndex := 11, descriptorIndex := 12, attributes := #[] }, { accessFlags := 2, nameIndex := 57, descriptorIndex := 25, attributes := #[] }])
  fields := #[{ name := "nodes", type := .int, accessFlags := 2, slot := 0, constantValue := 0 }, { name := "leastDepth", type := .int, accessFlags := 2, slot := 1, constantValue := 0 }, { name := "lastKind", type := (.object "com/example/horatius/horatius/core/NodeKind"), accessFlags := 2, slot := 2, constantValue := 0 }, { name := "lastDepth", type := .int, accessFlags := 2, slot := 3, constantValue := 0 }, { name := "topElements", type := .int, accessFlags := 2, slot := 4, constantValue := 0 }, { name := "typedAttributes", type := .int, accessFlags := 2, slot := 5, constantValue := 0 }, { name := "asides", type := (.array .int), accessFlags := 2, slot := 6, constantValue := 0 }, { name := "asideCount", type := .int, accessFlags := 2, slot := 7, constantValue := 0 }]
  methods := #[k3m0, k3m1, k3m2, k3m3, k3m4, k3m5, k3m6]
  instanceTypes := #[.int, .int, (.object "com/example/horatius/horatius/core/NodeKind"), .int, .int, .int, (.array .int), .int]
  staticTypes := #[]
  resolved := Array.replicate 115 none
  statics := none }

def pool4 : Array CpInfo := pool [(1, .class_ 2), (0, u "java/lang/constant/Constable"), (0, .class_ 4), (0, u "java/lang/Object")] 6

/-- java/lang/constant/Constable -/
def k4 : Class := { plain "java/lang/constant/Constable" (some 0) with
  accessFlags := 1537
  interfaces := #[]
  cf := some (fileOf pool4 1 #[] #[] 1537 3 #[] #[])
  fields := #[]
  methods := #[]
  instanceTypes := #[]
  staticTypes := #[]
  resolved := Array.replicate 11 none
  statics := none }

def pool5 : Array CpInfo := pool [(1, .class_ 2), (0, u "java/lang/Comparable"), (0, .class_ 4), (0, u "java/lang/Object")] 7

/-- java/lang/Comparable -/
def k5 : Class := { plain "java/lang/Comparable" (some 0) with
  accessFlags := 1537
  interfaces := #[]
  cf := some (fileOf pool5 1 #[] #[] 1537 3 #[] #[])
  fields := #[]
  methods := #[]
  instanceTypes := #[]
  staticTypes := #[]
  resolved := Array.replicate 12 none
  statics := none }

def pool6 : Array CpInfo := pool [(1, .class_ 2), (0, u "java/io/Serializable"), (0, .class_ 4), (0, u "java/lang/Object")] 2

/-- java/io/Serializable -/
def k6 : Class := { plain "java/io/Serializable" (some 0) with
  accessFlags := 1537
  interfaces := #[]
  cf := some (fileOf pool6 1 #[] #[] 1537 3 #[] #[])
  fields := #[]
  methods := #[]
  instanceTypes := #[]
  staticTypes := #[]
  resolved := Array.replicate 7 none
  statics := none }

def pool7 : Array CpInfo := pool [(2, .class_ 4), (1, u "java/lang/Enum"), (0, u "name"), (0, u "Ljava/lang/String;"), (0, .fieldref 2 8), (0, .nameAndType 9 10), (0, u "ordinal"), (0, u "I"), (1, .class_ 14), (1, u "java/lang/Object"), (4, u "hash"), (86, .class_ 108), (1, u "java/lang/Enum$EnumDesc"), (2, .class_ 112), (0, u "java/lang/constant/Constable"), (0, .class_ 114), (0, u "java/lang/Comparable"), (0, .class_ 116), (0, u "java/io/Serializable"), (9, u "()I")] 77

def k7c0 : Code := { maxStack := 1, maxLocals := 1, code := jdk_37_method_2_code, exceptionTable := #[], attributes := #[] }
def k7m0 : Method := { name := "ordinal", desc := "()I", sig := { parameters := [], returnType := some .int }, accessFlags := 17, code := some k7c0 }
/-- java/lang/Enum -/
def k7 : Class := { plain "java/lang/Enum" (some 0) with
  accessFlags := 1057
  interfaces := #[4, 5, 6]
  cf := some (fileOf pool7 2 #[.nestMembers #[106]] #[{ accessFlags := 17, nameIndex := 9, descriptorIndex := 126, attributes := #[] }] 1057 12 #[111, 113, 115] #[{ accessFlags := 18, nameIndex := 5, descriptorIndex := 6, attributes := #[] }, { accessFlags := 18, nameIndex := 9, descriptorIndex := 10, attributes := #[] }, { accessFlags := 2, nameIndex := 19, descriptorIndex := 10, attributes := #[] }])
  fields := #[{ name := "name", type := (.object "java/lang/String"), accessFlags := 18, slot := 0, constantValue := 0 }, { name := "ordinal", type := .int, accessFlags := 18, slot := 1, constantValue := 0 }, { name := "hash", type := .int, accessFlags := 2, slot := 2, constantValue := 0 }]
  methods := #[k7m0]
  instanceTypes := #[(.object "java/lang/String"), .int, .int]
  staticTypes := #[]
  resolved := Array.replicate 204 none
  statics := none }

def pool8 : Array CpInfo := pool [(1, .class_ 2), (0, u "com/example/horatius/horatius/core/NodeKind"), (2, u "DOCUMENT"), (0, u "Lcom/example/horatius/horatius/core/NodeKind;"), (2, u "ELEMENT"), (2, u "ATTRIBUTE"), (2, u "TEXT"), (2, u "COMMENT"), (2, u "PROCESSING_INSTRUCTION"), (2, u "$VALUES"), (0, u "[Lcom/example/horatius/horatius/core/NodeKind;"), (6, .class_ 34), (1, u "java/lang/Enum")] 28

/-- com/example/horatius/horatius/core/NodeKind -/
def k8 : Class := { plain "com/example/horatius/horatius/core/NodeKind" (some 7) with
  accessFlags := 16433
  interfaces := #[]
  cf := some (fileOf pool8 1 #[] #[] 16433 32 #[] #[{ accessFlags := 16409, nameIndex := 5, descriptorIndex := 6, attributes := #[] }, { accessFlags := 16409, nameIndex := 9, descriptorIndex := 6, attributes := #[] }, { accessFlags := 16409, nameIndex := 12, descriptorIndex := 6, attributes := #[] }, { accessFlags := 16409, nameIndex := 15, descriptorIndex := 6, attributes := #[] }, { accessFlags := 16409, nameIndex := 18, descriptorIndex := 6, attributes := #[] }, { accessFlags := 16409, nameIndex := 21, descriptorIndex := 6, attributes := #[] }, { accessFlags := 4122, nameIndex := 24, descriptorIndex := 25, attributes := #[] }])
  fields := #[{ name := "DOCUMENT", type := (.object "com/example/horatius/horatius/core/NodeKind"), accessFlags := 16409, slot := 0, constantValue := 0 }, { name := "ELEMENT", type := (.object "com/example/horatius/horatius/core/NodeKind"), accessFlags := 16409, slot := 1, constantValue := 0 }, { name := "ATTRIBUTE", type := (.object "com/example/horatius/horatius/core/NodeKind"), accessFlags := 16409, slot := 2, constantValue := 0 }, { name := "TEXT", type := (.object "com/example/horatius/horatius/core/NodeKind"), accessFlags := 16409, slot := 3, constantValue := 0 }, { name := "COMMENT", type := (.object "com/example/horatius/horatius/core/NodeKind"), accessFlags := 16409, slot := 4, constantValue := 0 }, { name := "PROCESSING_INSTRUCTION", type := (.object "com/example/horatius/horatius/core/NodeKind"), accessFlags := 16409, slot := 5, constantValue := 0 }, { name := "$VALUES", type := (.array (.object "com/example/horatius/horatius/core/NodeKind")), accessFlags := 4122, slot := 6, constantValue := 0 }]
  methods := #[]
  instanceTypes := #[(.object "java/lang/String"), .int, .int]
  staticTypes := #[(.object "com/example/horatius/horatius/core/NodeKind"), (.object "com/example/horatius/horatius/core/NodeKind"), (.object "com/example/horatius/horatius/core/NodeKind"), (.object "com/example/horatius/horatius/core/NodeKind"), (.object "com/example/horatius/horatius/core/NodeKind"), (.object "com/example/horatius/horatius/core/NodeKind"), (.array (.object "com/example/horatius/horatius/core/NodeKind"))]
  resolved := Array.replicate 63 none
  statics := some 0 }

def pool9 : Array CpInfo := pool [(2, .class_ 4), (1, u "java/lang/Object"), (0, u "<init>"), (0, u "()V"), (35, .class_ 44), (1, u "java/util/Objects"), (0, u "requireNonNull"), (0, u "(Ljava/lang/Object;)Ljava/lang/Object;")] 137

def k9m0 : Method := { name := "<init>", desc := "()V", sig := { parameters := [], returnType := none }, accessFlags := 2, code := none }
def k9c1 : Code := { maxStack := 2, maxLocals := 1, code := jdk_31_method_10_code, exceptionTable := #[], attributes := #[] }
def k9m1 : Method := { name := "requireNonNull", desc := "(Ljava/lang/Object;)Ljava/lang/Object;", sig := { parameters := [(.object "java/lang/Object")], returnType := some (.object "java/lang/Object") }, accessFlags := 9, code := some k9c1 }
/-- java/util/Objects -/
def k9 : Class := { plain "java/util/Objects" (some 0) with
  accessFlags := 49
  interfaces := #[]
  cf := some (fileOf pool9 42 #[] #[{ accessFlags := 2, nameIndex := 5, descriptorIndex := 6, attributes := #[] }, { accessFlags := 9, nameIndex := 45, descriptorIndex := 46, attributes := #[] }] 49 2 #[] #[])
  fields := #[]
  methods := #[k9m0, k9m1]
  instanceTypes := #[]
  staticTypes := #[]
  resolved := Array.replicate 184 none
  statics := none }

def pool10 : Array CpInfo := pool [(1, .class_ 2), (0, u "java/lang/Cloneable"), (0, .class_ 4), (0, u "java/lang/Object")] 2

/-- java/lang/Cloneable -/
def k10 : Class := { plain "java/lang/Cloneable" (some 0) with
  accessFlags := 1537
  interfaces := #[]
  cf := some (fileOf pool10 1 #[] #[] 1537 3 #[] #[])
  fields := #[]
  methods := #[]
  instanceTypes := #[]
  staticTypes := #[]
  resolved := Array.replicate 7 none
  statics := none }

def pool11 : Array CpInfo := pool [(1, .methodref 2 3), (0, .class_ 4), (0, .nameAndType 5 6), (0, u "java/lang/Object"), (0, u "<init>"), (0, u "()V"), (0, .class_ 8), (0, u "com/example/horatius/horatius/core/PageSummary"), (0, .methodref 7 3), (0, .fieldref 11 12), (0, .class_ 13), (0, .nameAndType 14 15), (0, u "com/example/horatius/horatius/core/OutlinePage"), (0, u "gathered"), (0, u "Lcom/example/horatius/horatius/core/PageSummary;"), (0, .fieldref 11 17), (0, .nameAndType 18 19), (0, u "open"), (0, u "[I"), (0, .fieldref 11 21), (0, .nameAndType 22 23), (0, u "index"), (0, u "I"), (0, .fieldref 11 25), (0, .nameAndType 26 23), (0, u "start"), (0, .fieldref 11 28), (0, .nameAndType 29 15), (0, u "summary"), (0, .fieldref 11 31), (0, .nameAndType 32 23), (0, u "nameCount"), (0, .methodref 7 34), (0, .nameAndType 35 36), (0, u "lastKind"), (0, u "()Lcom/example/horatius/horatius/core/NodeKind;"), (0, .fieldref 11 38), (0, .nameAndType 39 40), (0, u "previousKind"), (0, u "Lcom/example/horatius/horatius/core/NodeKind;"), (0, .methodref 7 42), (0, .nameAndType 43 44), (0, u "lastDepth"), (0, u "()I"), (0, .fieldref 11 46), (0, .nameAndType 47 23), (0, u "previousDepth"), (0, .fieldref 49 50), (0, .class_ 51), (0, .nameAndType 52 40), (0, u "com/example/horatius/horatius/core/NodeKind"), (0, u "ELEMENT"), (3, .fieldref 11 57), (0, .nameAndType 58 23), (0, u "openBefore"), (0, .methodref 7 60), (0, .nameAndType 61 44), (0, u "nodes"), (0, .fieldref 11 63), (0, .nameAndType 64 65), (0, u "kinds"), (0, u "[B"), (0, .fieldref 11 67), (0, .nameAndType 68 19), (0, u "names"), (0, .fieldref 11 70), (0, .nameAndType 71 19), (0, u "depths"), (0, .fieldref 11 73), (0, .nameAndType 74 19), (0, u "parents"), (0, .fieldref 11 76), (0, .nameAndType 77 19), (0, u "subtreeEnds"), (0, .fieldref 11 79), (0, .nameAndType 80 23), (0, u "size"), (9, .methodref 49 91), (0, .nameAndType 92 44), (0, u "ordinal"), (0, .methodref 11 94), (0, .nameAndType 95 96), (0, u "add"), (0, u "(IIII)V"), (0, .fieldref 11 98), (0, .nameAndType 99 23), (0, u "openCount"), (0, .methodref 11 101), (0, .nameAndType 102 103), (0, u "placeChild"), (0, u "(Lcom/example/horatius/horatius/core/NodeKind;I)I"), (4, .methodref 11 109), (0, .nameAndType 110 111), (0, u "checkedName"), (0, u "(I)I"), (0, .methodref 113 114), (0, .class_ 115), (0, .nameAndType 116 117), (0, u "java/util/Arrays"), (0, u "copyOf"), (0, u "([II)[I"), (0, .methodref 11 119), (0, .nameAndType 120 6), (0, u "checkStarted"), (0, .fieldref 49 122), (0, .nameAndType 123 40), (0, u "ATTRIBUTE"), (7, .class_ 132), (0, u "com/example/horatius/horatius/core/AttributeType"), (11, .methodref 7 145), (0, .nameAndType 146 147), (0, u "equals"), (0, u "(Ljava/lang/Object;)Z"), (1, .methodref 11 150), (0, .nameAndType 151 152), (0, u "shallowest"), (0, u "(III)[I"), (0, .fieldref 11 154), (0, .nameAndType 155 19), (0, u "shallowestFromStart"), (0, .fieldref 11 157), (0, .nameAndType 158 19), (0, u "shallowestToEnd"), (0, .methodref 113 160), (0, .nameAndType 161 162), (0, u "sort"), (0, u "([I)V"), (0, .fieldref 11 164), (0, .nameAndType 165 166), (0, u "ended"), (0, u "Z"), (2, .integer 2147483647), (0, .fieldref 11 171), (0, .nameAndType 172 173), (0, u "KINDS"), (0, u "[Lcom/example/horatius/horatius/core/NodeKind;"), (0, .methodref 11 175), (0, .nameAndType 176 177), (0, u "kind"), (0, u "(I)Lcom/example/horatius/horatius/core/NodeKind;"), (2, u "TYPES"), (0, u "[Lcom/example/horatius/horatius/core/AttributeType;"), (0, .fieldref 131 183), (0, .nameAndType 184 185), (0, u "OTHER"), (0, u "Lcom/example/horatius/horatius/core/AttributeType;"), (18, .methodref 11 205), (0, .nameAndType 206 207), (0, u "attributeType"), (0, u "(I)Lcom/example/horatius/horatius/core/AttributeType;"), (0, .methodref 7 209), (0, .nameAndType 95 210), (0, u "(Lcom/example/horatius/horatius/core/NodeKind;ILcom/example/horatius/horatius/core/AttributeType;)V"), (7, u "KIND_BITS"), (2, u "TYPE_SHIFT"), (1, u "DECLARES"), (1, u "NO_DOCUMENT_NODE"), (0, u "Ljava/lang/String;"), (0, u "(IILcom/example/horatius/horatius/core/PageSummary;Lcom/example/horatius/horatius/core/PageSummary;I)V"), (4, u "addElement"), (0, u "(IIZ)V"), (7, u "end"), (11, u "lastAtOrAbove")] 34

def k11c0 : Code := { maxStack := 3, maxLocals := 8, code := prog_19_method_1_code, exceptionTable := #[], attributes := #[] }
def k11m0 : Method := { name := "<init>", desc := "(IILcom/example/horatius/horatius/core/PageSummary;Lcom/example/horatius/horatius/core/PageSummary;I)V", sig := { parameters := [.int, .int, (.object "com/example/horatius/horatius/core/PageSummary"), (.object "com/example/horatius/horatius/core/PageSummary"), .int], returnType := none }, accessFlags := 0, code := some k11c0 }
def k11c1 : Code := { maxStack := 5, maxLocals := 6, code := prog_19_method_3_code, exceptionTable := #[], attributes := #[] }
def k11m1 : Method := { name := "addElement", desc := "(IIZ)V", sig := { parameters := [.int, .int, .boolean], returnType := none }, accessFlags := 1, code := some k11c1 }
def k11c2 : Code := { maxStack := 5, maxLocals := 1, code := prog_19_method_8_code, exceptionTable := #[], attributes := #[] }
def k11m2 : Method := { name := "end", desc := "()V", sig := { parameters := [], returnType := none }, accessFlags := 1, code := some k11c2 }
def k11c3 : Code := { maxStack := 3, maxLocals := 8, code := prog_19_method_9_code, exceptionTable := #[], attributes := #[] }
def k11m3 : Method := { name := "shallowest", desc := "(III)[I", sig := { parameters := [.int, .int, .int], returnType := some (.array .int) }, accessFlags := 2, code := some k11c3 }
def k11c4 : Code := { maxStack := 3, maxLocals := 2, code := prog_19_method_14_code, exceptionTable := #[], attributes := #[] }
def k11m4 : Method := { name := "kind", desc := "(I)Lcom/example/horatius/horatius/core/NodeKind;", sig := { parameters := [.int], returnType := some (.object "com/example/horatius/horatius/core/NodeKind") }, accessFlags := 0, code := some k11c4 }
def k11c5 : Code := { maxStack := 3, maxLocals := 2, code := prog_19_method_16_code, exceptionTable := #[], attributes := #[] }
def k11m5 : Method := { name := "attributeType", desc := "(I)Lcom/example/horatius/horatius/core/AttributeType;", sig := { parameters := [.int], returnType := some (.object "com/example/horatius/horatius/core/AttributeType") }, accessFlags := 0, code := some k11c5 }
def k11c6 : Code := { maxStack := 3, maxLocals := 5, code := prog_19_method_22_code, exceptionTable := #[], attributes := #[] }
def k11m6 : Method := { name := "lastAtOrAbove", desc := "(I)I", sig := { parameters := [.int], returnType := some .int }, accessFlags := 0, code := some k11c6 }
def k11c7 : Code := { maxStack := 5, maxLocals := 3, code := prog_19_method_23_code, exceptionTable := #[], attributes := #[] }
def k11m7 : Method := { name := "placeChild", desc := "(Lcom/example/horatius/horatius/core/NodeKind;I)I", sig := { parameters := [(.object "com/example/horatius/horatius/core/NodeKind"), .int], returnType := some .int }, accessFlags := 2, code := some k11c7 }
def k11c8 : Code := { maxStack := 4, maxLocals := 2, code := prog_19_method_25_code, exceptionTable := #[], attributes := #[] }
def k11m8 : Method := { name := "checkedName", desc := "(I)I", sig := { parameters := [.int], returnType := some .int }, accessFlags := 2, code := some k11c8 }
def k11c9 : Code := { maxStack := 3, maxLocals := 1, code := prog_19_method_26_code, exceptionTable := #[], attributes := #[] }
def k11m9 : Method := { name := "checkStarted", desc := "()V", sig := { parameters := [], returnType := none }, accessFlags := 2, code := some k11c9 }
def k11c10 : Code := { maxStack := 5, maxLocals := 7, code := prog_19_method_27_code, exceptionTable := #[], attributes := #[] }
def k11m10 : Method := { name := "add", desc := "(IIII)V", sig := { parameters := [.int, .int, .int, .int], returnType := none }, accessFlags := 2, code := some k11c10 }
/-- com/example/horatius/horatius/core/OutlinePage -/
def k11 : Class := { plain "com/example/horatius/horatius/core/OutlinePage" (some 0) with
  accessFlags := 33
  interfaces := #[]
  cf := some (fileOf pool11 11 #[] #[{ accessFlags := 0, nameIndex := 5, descriptorIndex := 227, attributes := #[] }, { accessFlags := 1, nameIndex := 232, descriptorIndex := 233, attributes := #[] }, { accessFlags := 1, nameIndex := 241, descriptorIndex := 6, attributes := #[] }, { accessFlags := 2, nameIndex := 151, descriptorIndex := 152, attributes := #[] }, { accessFlags := 0, nameIndex := 176, descriptorIndex := 177, attributes := #[] }, { accessFlags := 0, nameIndex := 206, descriptorIndex := 207, attributes := #[] }, { accessFlags := 0, nameIndex := 253, descriptorIndex := 111, attributes := #[] }, { accessFlags := 2, nameIndex := 102, descriptorIndex := 103, attributes := #[] }, { accessFlags := 2, nameIndex := 110, descriptorIndex := 111, attributes := #[] }, { accessFlags := 2, nameIndex := 120, descriptorIndex := 6, attributes := #[] }, { accessFlags := 2, nameIndex := 95, descriptorIndex := 96, attributes := #[] }] 33 2 #[] #[{ accessFlags := 26, nameIndex := 218, descriptorIndex := 23, attributes := #[] }, { accessFlags := 26, nameIndex := 221, descriptorIndex := 23, attributes := #[] }, { accessFlags := 26, nameIndex := 223, descriptorIndex := 23, attributes := #[] }, { accessFlags := 24, nameIndex := 225, descriptorIndex := 226, attributes := #[] }, { accessFlags := 26, nameIndex := 172, descriptorIndex := 173, attributes := #[] }, { accessFlags := 26, nameIndex := 180, descriptorIndex := 181, attributes := #[] }, { accessFlags := 18, nameIndex := 22, descriptorIndex := 23, attributes := #[] }, { accessFlags := 18, nameIndex := 26, descriptorIndex := 23, attributes := #[] }, { accessFlags := 18, nameIndex := 29, descriptorIndex := 15, attributes := #[] }, { accessFlags := 18, nameIndex := 32, descriptorIndex := 23, attributes := #[] }, { accessFlags := 18, nameIndex := 64, descriptorIndex := 65, attributes := #[] }, { accessFlags := 18, nameIndex := 68, descriptorIndex := 19, attributes := #[] }, { accessFlags := 18, nameIndex := 71, descriptorIndex := 19, attributes := #[] }, { accessFlags := 18, nameIndex := 74, descriptorIndex := 19, attributes := #[] }, { accessFlags := 18, nameIndex := 77, descriptorIndex := 19, attributes := #[] }, { accessFlags := 18, nameIndex := 14, descriptorIndex := 15, attributes := #[] }, { accessFlags := 2, nameIndex := 80, descriptorIndex := 23, attributes := #[] }, { accessFlags := 2, nameIndex := 39, descriptorIndex := 40, attributes := #[] }, { accessFlags := 2, nameIndex := 47, descriptorIndex := 23, attributes := #[] }, { accessFlags := 2, nameIndex := 58, descriptorIndex := 23, attributes := #[] }, { accessFlags := 2, nameIndex := 18, descriptorIndex := 19, attributes := #[] }, { accessFlags := 2, nameIndex := 99, descriptorIndex := 23, attributes := #[] }, { accessFlags := 2, nameIndex := 155, descriptorIndex := 19, attributes := #[] }, { accessFlags := 2, nameIndex := 158, descriptorIndex := 19, attributes := #[] }, { accessFlags := 2, nameIndex := 165, descriptorIndex := 166, attributes := #[] }])
  fields := #[{ name := "KIND_BITS", type := .int, accessFlags := 26, slot := 0, constantValue := 0 }, { name := "TYPE_SHIFT", type := .int, accessFlags := 26, slot := 1, constantValue := 0 }, { name := "DECLARES", type := .int, accessFlags := 26, slot := 2, constantValue := 0 }, { name := "NO_DOCUMENT_NODE", type := (.object "java/lang/String"), accessFlags := 24, slot := 3, constantValue := 0 }, { name := "KINDS", type := (.array (.object "com/example/horatius/horatius/core/NodeKind")), accessFlags := 26, slot := 4, constantValue := 0 }, { name := "TYPES", type := (.array (.object "com/example/horatius/horatius/core/AttributeType")), accessFlags := 26, slot := 5, constantValue := 0 }, { name := "index", type := .int, accessFlags := 18, slot := 0, constantValue := 0 }, { name := "start", type := .int, accessFlags := 18, slot := 1, constantValue := 0 }, { name := "summary", type := (.object "com/example/horatius/horatius/core/PageSummary"), accessFlags := 18, slot := 2, constantValue := 0 }, { name := "nameCount", type := .int, accessFlags := 18, slot := 3, constantValue := 0 }, { name := "kinds", type := (.array .byte), accessFlags := 18, slot := 4, constantValue := 0 }, { name := "names", type := (.array .int), accessFlags := 18, slot := 5, constantValue := 0 }, { name := "depths", type := (.array .int), accessFlags := 18, slot := 6, constantValue := 0 }, { name := "parents", type := (.array .int), accessFlags := 18, slot := 7, constantValue := 0 }, { name := "subtreeEnds", type := (.array .int), accessFlags := 18, slot := 8, constantValue := 0 }, { name := "gathered", type := (.object "com/example/horatius/horatius/core/PageSummary"), accessFlags := 18, slot := 9, constantValue := 0 }, { name := "size", type := .int, accessFlags := 2, slot := 10, constantValue := 0 }, { name := "previousKind", type := (.object "com/example/horatius/horatius/core/NodeKind"), accessFlags := 2, slot := 11, constantValue := 0 }, { name := "previousDepth", type := .int, accessFlags := 2, slot := 12, constantValue := 0 }, { name := "openBefore", type := .int, accessFlags := 2, slot := 13, constantValue := 0 }, { name := "open", type := (.array .int), accessFlags := 2, slot := 14, constantValue := 0 }, { name := "openCount", type := .int, accessFlags := 2, slot := 15, constantValue := 0 }, { name := "shallowestFromStart", type := (.array .int), accessFlags := 2, slot := 16, constantValue := 0 }, { name := "shallowestToEnd", type := (.array .int), accessFlags := 2, slot := 17, constantValue := 0 }, { name := "ended", type := .boolean, accessFlags := 2, slot := 18, constantValue := 0 }]
  methods := #[k11m0, k11m1, k11m2, k11m3, k11m4, k11m5, k11m6, k11m7, k11m8, k11m9, k11m10]
  instanceTypes := #[.int, .int, (.object "com/example/horatius/horatius/core/PageSummary"), .int, (.array .byte), (.array .int), (.array .int), (.array .int), (.array .int), (.object "com/example/horatius/horatius/core/PageSummary"), .int, (.object "com/example/horatius/horatius/core/NodeKind"), .int, .int, (.array .int), .int, (.array .int), (.array .int), .boolean]
  staticTypes := #[.int, .int, .int, (.object "java/lang/String"), (.array (.object "com/example/horatius/horatius/core/NodeKind")), (.array (.object "com/example/horatius/horatius/core/AttributeType"))]
  resolved := Array.replicate 288 none
  statics := some 1 }

def pool12 : Array CpInfo := pool [(1, .class_ 2), (0, u "com/example/horatius/horatius/core/AttributeType"), (2, u "OTHER"), (0, u "Lcom/example/horatius/horatius/core/AttributeType;"), (2, u "ID"), (2, u "IDREFS"), (2, u "$VALUES"), (0, u "[Lcom/example/horatius/horatius/core/AttributeType;"), (6, .class_ 25), (1, u "java/lang/Enum")] 59

/-- com/example/horatius/horatius/core/AttributeType -/
def k12 : Class := { plain "com/example/horatius/horatius/core/AttributeType" (some 7) with
  accessFlags := 16433
  interfaces := #[]
  cf := some (fileOf pool12 1 #[] #[] 16433 23 #[] #[{ accessFlags := 16409, nameIndex := 5, descriptorIndex := 6, attributes := #[] }, { accessFlags := 16409, nameIndex := 9, descriptorIndex := 6, attributes := #[] }, { accessFlags := 16409, nameIndex := 12, descriptorIndex := 6, attributes := #[] }, { accessFlags := 4122, nameIndex := 15, descriptorIndex := 16, attributes := #[] }])
  fields := #[{ name := "OTHER", type := (.object "com/example/horatius/horatius/core/AttributeType"), accessFlags := 16409, slot := 0, constantValue := 0 }, { name := "ID", type := (.object "com/example/horatius/horatius/core/AttributeType"), accessFlags := 16409, slot := 1, constantValue := 0 }, { name := "IDREFS", type := (.object "com/example/horatius/horatius/core/AttributeType"), accessFlags := 16409, slot := 2, constantValue := 0 }, { name := "$VALUES", type := (.array (.object "com/example/horatius/horatius/core/AttributeType")), accessFlags := 4122, slot := 3, constantValue := 0 }]
  methods := #[]
  instanceTypes := #[(.object "java/lang/String"), .int, .int]
  staticTypes := #[(.object "com/example/horatius/horatius/core/AttributeType"), (.object "com/example/horatius/horatius/core/AttributeType"), (.object "com/example/horatius/horatius/core/AttributeType"), (.array (.object "com/example/horatius/horatius/core/AttributeType"))]
  resolved := Array.replicate 85 none
  statics := some 2 }

def pool13 : Array CpInfo := pool [(2, .class_ 4), (1, u "java/lang/Object"), (0, u "<init>"), (0, u "()V"), (0, .methodref 8 9), (0, .class_ 10), (0, .nameAndType 11 12), (0, u "java/util/DualPivotQuicksort"), (0, u "sort"), (0, u "([IIII)V"), (0, .methodref 14 15), (0, .class_ 16), (0, .nameAndType 17 18), (0, u "java/util/Arrays"), (0, u "rangeCheck"), (0, u "(III)V"), (55, .class_ 76), (1, u "java/util/Arrays$NaturalOrder"), (36, .class_ 115), (1, u "java/util/Arrays$LegacyMergeSort"), (1, u "Z"), (32, .methodref 151 152), (0, .class_ 153), (0, .nameAndType 154 155), (0, u "java/lang/System"), (0, u "arraycopy"), (0, u "(Ljava/lang/Object;ILjava/lang/Object;II)V"), (90, .class_ 248), (1, u "jdk/internal/util/ArraysSupport"), (0, u "mismatch"), (7, .methodref 246 258), (0, .nameAndType 249 259), (0, u "([II[III)I"), (38, u "equals"), (3, u "copyOf"), (1, .methodref 305 306), (0, .class_ 307), (0, .nameAndType 308 309), (0, u "java/lang/Math"), (0, u "min"), (0, u "(II)I"), (65, .class_ 376), (0, u "java/util/Arrays$ArrayList"), (68, u "$assertionsDisabled"), (269, u "MIN_ARRAY_SORT_GRAN"), (0, u "I"), (2, u "INSERTIONSORT_THRESHOLD"), (6, u "([I)V"), (99, u "([III[III)Z"), (44, u "([II)[I"), (103, .class_ 976), (0, u "java/util/Arrays$ArrayItr")] 52

def k13m0 : Method := { name := "<init>", desc := "()V", sig := { parameters := [], returnType := none }, accessFlags := 2, code := none }
def k13c1 : Code := { maxStack := 4, maxLocals := 1, code := jdk_65_method_2_code, exceptionTable := #[], attributes := #[] }
def k13m1 : Method := { name := "sort", desc := "([I)V", sig := { parameters := [(.array .int)], returnType := none }, accessFlags := 9, code := some k13c1 }
def k13c2 : Code := { maxStack := 4, maxLocals := 3, code := jdk_65_method_30_code, exceptionTable := #[], attributes := #[] }
def k13m2 : Method := { name := "rangeCheck", desc := "(III)V", sig := { parameters := [.int, .int, .int], returnType := none }, accessFlags := 8, code := some k13c2 }
def k13c3 : Code := { maxStack := 5, maxLocals := 8, code := jdk_65_method_84_code, exceptionTable := #[], attributes := #[] }
def k13m3 : Method := { name := "equals", desc := "([III[III)Z", sig := { parameters := [(.array .int), .int, .int, (.array .int), .int, .int], returnType := some .boolean }, accessFlags := 9, code := some k13c3 }
def k13c4 : Code := { maxStack := 6, maxLocals := 3, code := jdk_65_method_123_code, exceptionTable := #[], attributes := #[] }
def k13m4 : Method := { name := "copyOf", desc := "([II)[I", sig := { parameters := [(.array .int), .int], returnType := some (.array .int) }, accessFlags := 9, code := some k13c4 }
/-- java/util/Arrays -/
def k13 : Class := { plain "java/util/Arrays" (some 0) with
  accessFlags := 49
  interfaces := #[]
  cf := some (fileOf pool13 14 #[.nestMembers #[975, 375, 113, 74]] #[{ accessFlags := 2, nameIndex := 5, descriptorIndex := 6, attributes := #[] }, { accessFlags := 9, nameIndex := 11, descriptorIndex := 726, attributes := #[] }, { accessFlags := 8, nameIndex := 17, descriptorIndex := 18, attributes := #[] }, { accessFlags := 9, nameIndex := 298, descriptorIndex := 826, attributes := #[] }, { accessFlags := 9, nameIndex := 302, descriptorIndex := 871, attributes := #[] }] 49 2 #[] #[{ accessFlags := 26, nameIndex := 715, descriptorIndex := 716, attributes := #[] }, { accessFlags := 26, nameIndex := 719, descriptorIndex := 716, attributes := #[] }, { accessFlags := 4120, nameIndex := 445, descriptorIndex := 117, attributes := #[] }])
  fields := #[{ name := "MIN_ARRAY_SORT_GRAN", type := .int, accessFlags := 26, slot := 0, constantValue := 0 }, { name := "INSERTIONSORT_THRESHOLD", type := .int, accessFlags := 26, slot := 1, constantValue := 0 }, { name := "$assertionsDisabled", type := .boolean, accessFlags := 4120, slot := 2, constantValue := 0 }]
  methods := #[k13m0, k13m1, k13m2, k13m3, k13m4]
  instanceTypes := #[]
  staticTypes := #[.int, .int, .boolean]
  resolved := Array.replicate 1029 none
  statics := none }

def pool14 : Array CpInfo := pool [(9, u "<init>"), (6, .class_ 18), (1, u "java/lang/Object"), (0, u "()V"), (1, .class_ 23), (1, u "jdk/internal/util/ArraysSupport"), (0, u "LOG2_ARRAY_LONG_INDEX_SCALE"), (0, u "I"), (2, u "U"), (0, u "Ljdk/internal/misc/Unsafe;"), (8, u "BIG_ENDIAN"), (0, u "Z"), (8, u "LOG2_BYTE_BIT_SIZE"), (4, u "LOG2_ARRAY_INT_INDEX_SCALE"), (54, u "JLA"), (0, u "Ljdk/internal/access/JavaLangAccess;"), (11, u "LOG2_ARRAY_BOOLEAN_INDEX_SCALE"), (9, u "LOG2_ARRAY_BYTE_INDEX_SCALE"), (5, u "LOG2_ARRAY_CHAR_INDEX_SCALE"), (5, u "LOG2_ARRAY_SHORT_INDEX_SCALE"), (5, u "mismatch"), (12, u "LOG2_ARRAY_FLOAT_INDEX_SCALE"), (24, u "LOG2_ARRAY_DOUBLE_INDEX_SCALE"), (89, u "T_BOOLEAN"), (2, u "T_CHAR"), (1, u "T_FLOAT"), (1, u "T_DOUBLE"), (1, u "T_BYTE"), (1, u "T_SHORT"), (1, u "T_INT"), (1, u "T_LONG"), (1, u "SOFT_MAX_ARRAY_LENGTH"), (48, u "([II[III)I")] 34

def k14m0 : Method := { name := "<init>", desc := "()V", sig := { parameters := [], returnType := none }, accessFlags := 2, code := none }
def k14c1 : Code := { maxStack := 8, maxLocals := 8, code := jdk_48_method_20_code, exceptionTable := #[], attributes := #[] }
def k14m1 : Method := { name := "mismatch", desc := "([II[III)I", sig := { parameters := [(.array .int), .int, (.array .int), .int, .int], returnType := some .int }, accessFlags := 9, code := some k14c1 }
/-- jdk/internal/util/ArraysSupport -/
def k14 : Class := { plain "jdk/internal/util/ArraysSupport" (some 0) with
  accessFlags := 33
  interfaces := #[]
  cf := some (fileOf pool14 21 #[] #[{ accessFlags := 2, nameIndex := 9, descriptorIndex := 19, attributes := #[] }, { accessFlags := 9, nameIndex := 149, descriptorIndex := 343, attributes := #[] }] 33 16 #[] #[{ accessFlags := 24, nameIndex := 28, descriptorIndex := 29, attributes := #[] }, { accessFlags := 26, nameIndex := 38, descriptorIndex := 39, attributes := #[] }, { accessFlags := 25, nameIndex := 121, descriptorIndex := 25, attributes := #[] }, { accessFlags := 25, nameIndex := 131, descriptorIndex := 25, attributes := #[] }, { accessFlags := 25, nameIndex := 137, descriptorIndex := 25, attributes := #[] }, { accessFlags := 25, nameIndex := 143, descriptorIndex := 25, attributes := #[] }, { accessFlags := 25, nameIndex := 53, descriptorIndex := 25, attributes := #[] }, { accessFlags := 25, nameIndex := 24, descriptorIndex := 25, attributes := #[] }, { accessFlags := 25, nameIndex := 162, descriptorIndex := 25, attributes := #[] }, { accessFlags := 25, nameIndex := 187, descriptorIndex := 25, attributes := #[] }, { accessFlags := 26, nameIndex := 48, descriptorIndex := 25, attributes := #[] }, { accessFlags := 25, nameIndex := 277, descriptorIndex := 25, attributes := #[] }, { accessFlags := 25, nameIndex := 280, descriptorIndex := 25, attributes := #[] }, { accessFlags := 25, nameIndex := 282, descriptorIndex := 25, attributes := #[] }, { accessFlags := 25, nameIndex := 284, descriptorIndex := 25, attributes := #[] }, { accessFlags := 25, nameIndex := 286, descriptorIndex := 25, attributes := #[] }, { accessFlags := 25, nameIndex := 288, descriptorIndex := 25, attributes := #[] }, { accessFlags := 25, nameIndex := 290, descriptorIndex := 25, attributes := #[] }, { accessFlags := 25, nameIndex := 292, descriptorIndex := 25, attributes := #[] }, { accessFlags := 26, nameIndex := 108, descriptorIndex := 109, attributes := #[] }, { accessFlags := 25, nameIndex := 294, descriptorIndex := 25, attributes := #[] }])
  fields := #[{ name := "U", type := (.object "jdk/internal/misc/Unsafe"), accessFlags := 24, slot := 0, constantValue := 0 }, { name := "BIG_ENDIAN", type := .boolean, accessFlags := 26, slot := 1, constantValue := 0 }, { name := "LOG2_ARRAY_BOOLEAN_INDEX_SCALE", type := .int, accessFlags := 25, slot := 2, constantValue := 0 }, { name := "LOG2_ARRAY_BYTE_INDEX_SCALE", type := .int, accessFlags := 25, slot := 3, constantValue := 0 }, { name := "LOG2_ARRAY_CHAR_INDEX_SCALE", type := .int, accessFlags := 25, slot := 4, constantValue := 0 }, { name := "LOG2_ARRAY_SHORT_INDEX_SCALE", type := .int, accessFlags := 25, slot := 5, constantValue := 0 }, { name := "LOG2_ARRAY_INT_INDEX_SCALE", type := .int, accessFlags := 25, slot := 6, constantValue := 0 }, { name := "LOG2_ARRAY_LONG_INDEX_SCALE", type := .int, accessFlags := 25, slot := 7, constantValue := 0 }, { name := "LOG2_ARRAY_FLOAT_INDEX_SCALE", type := .int, accessFlags := 25, slot := 8, constantValue := 0 }, { name := "LOG2_ARRAY_DOUBLE_INDEX_SCALE", type := .int, accessFlags := 25, slot := 9, constantValue := 0 }, { name := "LOG2_BYTE_BIT_SIZE", type := .int, accessFlags := 26, slot := 10, constantValue := 0 }, { name := "T_BOOLEAN", type := .int, accessFlags := 25, slot := 11, constantValue := 0 }, { name := "T_CHAR", type := .int, accessFlags := 25, slot := 12, constantValue := 0 }, { name := "T_FLOAT", type := .int, accessFlags := 25, slot := 13, constantValue := 0 }, { name := "T_DOUBLE", type := .int, accessFlags := 25, slot := 14, constantValue := 0 }, { name := "T_BYTE", type := .int, accessFlags := 25, slot := 15, constantValue := 0 }, { name := "T_SHORT", type := .int, accessFlags := 25, slot := 16, constantValue := 0 }, { name := "T_INT", type := .int, accessFlags := 25, slot := 17, constantValue := 0 }, { name := "T_LONG", type := .int, accessFlags := 25, slot := 18, constantValue := 0 }, { name := "JLA", type := (.object "jdk/internal/access/JavaLangAccess"), accessFlags := 26, slot := 19, constantValue := 0 }, { name := "SOFT_MAX_ARRAY_LENGTH", type := .int, accessFlags := 25, slot := 20, constantValue := 0 }]
  methods := #[k14m0, k14m1]
  instanceTypes := #[]
  staticTypes := #[(.object "jdk/internal/misc/Unsafe"), .boolean, .int, .int, .int, .int, .int, .int, .int, .int, .int, .int, .int, .int, .int, .int, .int, .int, .int, (.object "jdk/internal/access/JavaLangAccess"), .int]
  resolved := Array.replicate 378 none
  statics := none }

def pool15 : Array CpInfo := pool [(2, .class_ 4), (1, u "java/lang/Object"), (0, u "<init>"), (0, u "()V"), (1, .class_ 10), (1, u "java/lang/System"), (0, u "allowSecurityManager"), (0, u "I"), (16, u "cons"), (0, u "Ljava/io/Console;"), (77, .class_ 110), (1, u "java/lang/System$CallersHolder"), (43, u "initialErrStream"), (0, u "Ljava/io/PrintStream;"), (19, u "security"), (0, u "Ljava/lang/SecurityManager;"), (31, .class_ 209), (0, u "java/lang/System$1"), (7, u "props"), (0, u "Ljava/util/Properties;"), (2, u "lineSeparator"), (0, u "Ljava/lang/String;"), (96, .class_ 321), (1, u "java/lang/System$LoggerFinder"), (5, .class_ 328), (0, u "java/lang/System$Logger"), (67, u "err"), (2, u "out"), (91, u "notSupportedJnuEncoding"), (15, u "in"), (17, u "initialIn"), (0, u "Ljava/io/InputStream;"), (35, u "bootLayer"), (0, u "Ljava/lang/ModuleLayer;"), (99, .class_ 664), (0, u "java/lang/System$2"), (9, u "NEVER"), (2, u "MAYBE"), (49, u "arraycopy"), (0, u "(Ljava/lang/Object;ILjava/lang/Object;II)V"), (72, .class_ 802), (0, u "java/lang/System$Logger$Level")] 31

def k15m0 : Method := { name := "<init>", desc := "()V", sig := { parameters := [], returnType := none }, accessFlags := 2, code := none }
def k15m1 : Method := { name := "arraycopy", desc := "(Ljava/lang/Object;ILjava/lang/Object;II)V", sig := { parameters := [(.object "java/lang/Object"), .int, (.object "java/lang/Object"), .int, .int], returnType := none }, accessFlags := 265, code := none }
/-- java/lang/System -/
def k15 : Class := { plain "java/lang/System" (some 0) with
  accessFlags := 49
  interfaces := #[]
  cf := some (fileOf pool15 8 #[.nestMembers #[319, 327, 801, 108, 663, 208]] #[{ accessFlags := 2, nameIndex := 5, descriptorIndex := 6, attributes := #[] }, { accessFlags := 265, nameIndex := 727, descriptorIndex := 728, attributes := #[] }] 49 2 #[] #[{ accessFlags := 25, nameIndex := 507, descriptorIndex := 526, attributes := #[] }, { accessFlags := 25, nameIndex := 399, descriptorIndex := 155, attributes := #[] }, { accessFlags := 25, nameIndex := 396, descriptorIndex := 155, attributes := #[] }, { accessFlags := 10, nameIndex := 525, descriptorIndex := 526, attributes := #[] }, { accessFlags := 26, nameIndex := 674, descriptorIndex := 12, attributes := #[] }, { accessFlags := 26, nameIndex := 677, descriptorIndex := 12, attributes := #[] }, { accessFlags := 10, nameIndex := 11, descriptorIndex := 12, attributes := #[] }, { accessFlags := 74, nameIndex := 175, descriptorIndex := 176, attributes := #[] }, { accessFlags := 10, nameIndex := 491, descriptorIndex := 222, attributes := #[] }, { accessFlags := 74, nameIndex := 29, descriptorIndex := 30, attributes := #[] }, { accessFlags := 74, nameIndex := 154, descriptorIndex := 155, attributes := #[] }, { accessFlags := 10, nameIndex := 217, descriptorIndex := 218, attributes := #[] }, { accessFlags := 10, nameIndex := 221, descriptorIndex := 222, attributes := #[] }, { accessFlags := 8, nameIndex := 562, descriptorIndex := 563, attributes := #[] }])
  fields := #[{ name := "in", type := (.object "java/io/InputStream"), accessFlags := 25, slot := 0, constantValue := 0 }, { name := "out", type := (.object "java/io/PrintStream"), accessFlags := 25, slot := 1, constantValue := 0 }, { name := "err", type := (.object "java/io/PrintStream"), accessFlags := 25, slot := 2, constantValue := 0 }, { name := "initialIn", type := (.object "java/io/InputStream"), accessFlags := 10, slot := 3, constantValue := 0 }, { name := "NEVER", type := .int, accessFlags := 26, slot := 4, constantValue := 0 }, { name := "MAYBE", type := .int, accessFlags := 26, slot := 5, constantValue := 0 }, { name := "allowSecurityManager", type := .int, accessFlags := 10, slot := 6, constantValue := 0 }, { name := "security", type := (.object "java/lang/SecurityManager"), accessFlags := 74, slot := 7, constantValue := 0 }, { name := "notSupportedJnuEncoding", type := (.object "java/lang/String"), accessFlags := 10, slot := 8, constantValue := 0 }, { name := "cons", type := (.object "java/io/Console"), accessFlags := 74, slot := 9, constantValue := 0 }, { name := "initialErrStream", type := (.object "java/io/PrintStream"), accessFlags := 74, slot := 10, constantValue := 0 }, { name := "props", type := (.object "java/util/Properties"), accessFlags := 10, slot := 11, constantValue := 0 }, { name := "lineSeparator", type := (.object "java/lang/String"), accessFlags := 10, slot := 12, constantValue := 0 }, { name := "bootLayer", type := (.object "java/lang/ModuleLayer"), accessFlags := 8, slot := 13, constantValue := 0 }]
  methods := #[k15m0, k15m1]
  instanceTypes := #[]
  staticTypes := #[(.object "java/io/InputStream"), (.object "java/io/PrintStream"), (.object "java/io/PrintStream"), (.object "java/io/InputStream"), .int, .int, .int, (.object "java/lang/SecurityManager"), (.object "java/lang/String"), (.object "java/io/Console"), (.object "java/io/PrintStream"), (.object "java/util/Properties"), (.object "java/lang/String"), (.object "java/lang/ModuleLayer")]
  resolved := Array.replicate 834 none
  statics := none }

def pool16 : Array CpInfo := pool [(1, .class_ 2), (0, u "java/util/DualPivotQuicksort"), (5, .class_ 10), (1, u "java/lang/Object"), (0, u "<init>"), (0, u "()V"), (4, .class_ 18), (0, u "java/util/DualPivotQuicksort$Sorter"), (7, .methodref 1 27), (0, .nameAndType 28 29), (0, u "sort"), (0, u "(Ljava/util/DualPivotQuicksort$Sorter;[IIII)V"), (3, u "([IIII)V"), (0, .methodref 1 35), (0, .nameAndType 36 37), (0, u "insertionSort"), (0, u "([III)V"), (30, u "I"), (4, .class_ 74), (0, u "java/util/DualPivotQuicksort$RunMerger"), (10, .class_ 86), (0, u "java/util/DualPivotQuicksort$Merger"), (127, u "MAX_MIXED_INSERTION_SORT_SIZE"), (2, u "MAX_INSERTION_SORT_SIZE"), (1, u "MIN_PARALLEL_SORT_SIZE"), (1, u "MIN_TRY_MERGE_SIZE"), (0, u "MIN_FIRST_RUN_SIZE"), (1, u "MIN_FIRST_RUNS_FACTOR"), (1, u "MAX_RUN_CAPACITY"), (1, u "MIN_RUN_COUNT"), (1, u "MIN_PARALLEL_MERGE_PARTS_SIZE"), (0, u "MIN_BYTE_COUNTING_SORT_SIZE"), (1, u "MIN_SHORT_OR_CHAR_COUNTING_SORT_SIZE"), (1, u "DELTA"), (1, u "MAX_RECURSION_DEPTH"), (1, u "NUM_BYTE_VALUES"), (1, u "MAX_BYTE_INDEX"), (0, u "NUM_CHAR_VALUES"), (0, u "NUM_SHORT_VALUES"), (0, u "MAX_SHORT_INDEX")] 86

def k16m0 : Method := { name := "<init>", desc := "()V", sig := { parameters := [], returnType := none }, accessFlags := 2, code := none }
def k16c1 : Code := { maxStack := 9, maxLocals := 7, code := jdk_2529_method_3_code, exceptionTable := #[], attributes := #[] }
def k16m1 : Method := { name := "sort", desc := "([IIII)V", sig := { parameters := [(.array .int), .int, .int, .int], returnType := none }, accessFlags := 8, code := some k16c1 }
def k16c2 : Code := { maxStack := 6, maxLocals := 21, code := jdk_2529_method_4_code, exceptionTable := #[], attributes := #[] }
def k16m2 : Method := { name := "sort", desc := "(Ljava/util/DualPivotQuicksort$Sorter;[IIII)V", sig := { parameters := [(.object "java/util/DualPivotQuicksort$Sorter"), (.array .int), .int, .int, .int], returnType := none }, accessFlags := 8, code := some k16c2 }
def k16c3 : Code := { maxStack := 4, maxLocals := 6, code := jdk_2529_method_6_code, exceptionTable := #[], attributes := #[] }
def k16m3 : Method := { name := "insertionSort", desc := "([III)V", sig := { parameters := [(.array .int), .int, .int], returnType := none }, accessFlags := 10, code := some k16c3 }
/-- java/util/DualPivotQuicksort -/
def k16 : Class := { plain "java/util/DualPivotQuicksort" (some 0) with
  accessFlags := 48
  interfaces := #[]
  cf := some (fileOf pool16 1 #[.nestMembers #[73, 85, 17]] #[{ accessFlags := 2, nameIndex := 11, descriptorIndex := 12, attributes := #[] }, { accessFlags := 8, nameIndex := 28, descriptorIndex := 33, attributes := #[] }, { accessFlags := 8, nameIndex := 28, descriptorIndex := 29, attributes := #[] }, { accessFlags := 10, nameIndex := 36, descriptorIndex := 37, attributes := #[] }] 48 8 #[] #[{ accessFlags := 26, nameIndex := 214, descriptorIndex := 68, attributes := #[] }, { accessFlags := 26, nameIndex := 217, descriptorIndex := 68, attributes := #[] }, { accessFlags := 26, nameIndex := 219, descriptorIndex := 68, attributes := #[] }, { accessFlags := 26, nameIndex := 221, descriptorIndex := 68, attributes := #[] }, { accessFlags := 26, nameIndex := 222, descriptorIndex := 68, attributes := #[] }, { accessFlags := 26, nameIndex := 224, descriptorIndex := 68, attributes := #[] }, { accessFlags := 26, nameIndex := 226, descriptorIndex := 68, attributes := #[] }, { accessFlags := 26, nameIndex := 228, descriptorIndex := 68, attributes := #[] }, { accessFlags := 26, nameIndex := 230, descriptorIndex := 68, attributes := #[] }, { accessFlags := 26, nameIndex := 231, descriptorIndex := 68, attributes := #[] }, { accessFlags := 26, nameIndex := 233, descriptorIndex := 68, attributes := #[] }, { accessFlags := 26, nameIndex := 235, descriptorIndex := 68, attributes := #[] }, { accessFlags := 26, nameIndex := 237, descriptorIndex := 68, attributes := #[] }, { accessFlags := 26, nameIndex := 239, descriptorIndex := 68, attributes := #[] }, { accessFlags := 26, nameIndex := 241, descriptorIndex := 68, attributes := #[] }, { accessFlags := 26, nameIndex := 242, descriptorIndex := 68, attributes := #[] }, { accessFlags := 26, nameIndex := 243, descriptorIndex := 68, attributes := #[] }, { accessFlags := 26, nameIndex := 244, descriptorIndex := 68, attributes := #[] }])
  fields := #[{ name := "MAX_MIXED_INSERTION_SORT_SIZE", type := .int, accessFlags := 26, slot := 0, constantValue := 0 }, { name := "MAX_INSERTION_SORT_SIZE", type := .int, accessFlags := 26, slot := 1, constantValue := 0 }, { name := "MIN_PARALLEL_SORT_SIZE", type := .int, accessFlags := 26, slot := 2, constantValue := 0 }, { name := "MIN_TRY_MERGE_SIZE", type := .int, accessFlags := 26, slot := 3, constantValue := 0 }, { name := "MIN_FIRST_RUN_SIZE", type := .int, accessFlags := 26, slot := 4, constantValue := 0 }, { name := "MIN_FIRST_RUNS_FACTOR", type := .int, accessFlags := 26, slot := 5, constantValue := 0 }, { name := "MAX_RUN_CAPACITY", type := .int, accessFlags := 26, slot := 6, constantValue := 0 }, { name := "MIN_RUN_COUNT", type := .int, accessFlags := 26, slot := 7, constantValue := 0 }, { name := "MIN_PARALLEL_MERGE_PARTS_SIZE", type := .int, accessFlags := 26, slot := 8, constantValue := 0 }, { name := "MIN_BYTE_COUNTING_SORT_SIZE", type := .int, accessFlags := 26, slot := 9, constantValue := 0 }, { name := "MIN_SHORT_OR_CHAR_COUNTING_SORT_SIZE", type := .int, accessFlags := 26, slot := 10, constantValue := 0 }, { name := "DELTA", type := .int, accessFlags := 26, slot := 11, constantValue := 0 }, { name := "MAX_RECURSION_DEPTH", type := .int, accessFlags := 26, slot := 12, constantValue := 0 }, { name := "NUM_BYTE_VALUES", type := .int, accessFlags := 26, slot := 13, constantValue := 0 }, { name := "MAX_BYTE_INDEX", type := .int, accessFlags := 26, slot := 14, constantValue := 0 }, { name := "NUM_CHAR_VALUES", type := .int, accessFlags := 26, slot := 15, constantValue := 0 }, { name := "NUM_SHORT_VALUES", type := .int, accessFlags := 26, slot := 16, constantValue := 0 }, { name := "MAX_SHORT_INDEX", type := .int, accessFlags := 26, slot := 17, constantValue := 0 }]
  methods := #[k16m0, k16m1, k16m2, k16m3]
  instanceTypes := #[]
  staticTypes := #[.int, .int, .int, .int, .int, .int, .int, .int, .int, .int, .int, .int, .int, .int, .int, .int, .int, .int]
  resolved := Array.replicate 331 none
  statics := none }

/-- the primitive byte -/
def k17 : Class := { plain "byte" none with kind := .primitive 'B', accessFlags := 0x411 }
/-- [B -/
def k18 : Class := { plain "[B" (some 0) with kind := .array 17 .byte, interfaces := #[10, 6], accessFlags := 1041 }

/-- the primitive int -/
def k19 : Class := { plain "int" none with kind := .primitive 'I', accessFlags := 0x411 }
/-- [I -/
def k20 : Class := { plain "[I" (some 0) with kind := .array 19 .int, interfaces := #[10, 6], accessFlags := 1041 }

/-- [Lcom/example/horatius/horatius/core/NodeKind; -/
def k21 : Class := { plain "[Lcom/example/horatius/horatius/core/NodeKind;" (some 0) with kind := .array 8 (.object "com/example/horatius/horatius/core/NodeKind"), interfaces := #[10, 6], accessFlags := 1041 }

def heap : Heap := #[{ cls := 8, slots := #[.ref 4, .ref 5, .ref 6, .ref 7, .ref 8, .ref 9, .null], vm := .statics 8 },
  { cls := 11, slots := #[.int 0, .int 0, .int 0, .null, .ref 3, .null], vm := .statics 11 },
  { cls := 12, slots := #[.ref 10, .null, .null, .null], vm := .statics 12 },
  { cls := 21, slots := #[.ref 4, .ref 5, .ref 6, .ref 7, .ref 8, .ref 9], vm := .none },
  { cls := 8, slots := #[.null, .int 0, .int 0], vm := .none },
  { cls := 8, slots := #[.null, .int 1, .int 0], vm := .none },
  { cls := 8, slots := #[.null, .int 2, .int 0], vm := .none },
  { cls := 8, slots := #[.null, .int 3, .int 0], vm := .none },
  { cls := 8, slots := #[.null, .int 4, .int 0], vm := .none },
  { cls := 8, slots := #[.null, .int 5, .int 0], vm := .none },
  { cls := 12, slots := #[.null, .int 0, .int 0], vm := .none }]
def classes : Array Class := #[k0, k1, k2, k3, k4, k5, k6, k7, k8, k9, k10, k11, k12, k13, k14, k15, k16, k17, k18, k19, k20, k21]
def interned : List (Array UInt16 × Addr) := []
def slotsUsed : Nat := 44
def theMethod : MethodId := ⟨1, 1⟩
def args0 : Array Value := #[.int 4, .int 9, .int 1, .int 2, .int 3]
def aboutOver (below : List Frame) : State where
  vm := { classes := classes, interned := interned.toArray }
  heap := heap
  slotsUsed := slotsUsed
  threads := #[{ frames := .invoking theMethod args0 :: below }]
def below0 : List Frame := [.native { method := ⟨0, 0⟩, args := #[] }]
def about1 : State := aboutOver below0
def p0 : Program := .bare "" "" ""
def e0 : Env := launch0.env 0 0 0
theorem w_frames : about1.frames = Frame.invoking theMethod args0 :: below0 := rfl
set_option maxRecDepth 65536 in
theorem w_args : argsFit about1.vm theMethod args0 = true := by decide +kernel
set_option maxRecDepth 65536 in
theorem w_heap : heapFits about1 = true := by decide +kernel
set_option maxRecDepth 65536 in
theorem w_runnable : about1.curStatus? = some .runnable := by decide +kernel
set_option maxRecDepth 65536 in
theorem w_alone : about1.alone = true := by decide +kernel
set_option maxRecDepth 65536 in
theorem w_named : about1.methodNamed? x = some theMethod := by decide +kernel
set_option maxRecDepth 65536 in
theorem w_hears : about1.hears theMethod below0 = true := by decide +kernel
set_option maxRecDepth 65536 in
theorem w_ripe : about1.ripe theMethod args0 below0 = true := by decide +kernel
theorem w_running : about1.status = .running := rfl
set_option maxRecDepth 65536 in
theorem w_room : about1.hasRoom e0.platform room_1 = true :=
  launch0.hasRoom_least _ room_1 (by decide +kernel) (by decide +kernel) (by decide +kernel) (by decide +kernel) (by decide +kernel) (by decide +kernel)
theorem allAtoms_all (ts : List Jvm.Cond) (a : Array Jvm.Value) (st : Jvm.State) : (allAtoms ts).before a st = ts.all (fun c => c.before a st) := by
  induction ts with
  | nil => rfl
  | cons c t ih =>
    show (Jvm.Cond.and c (allAtoms t)).before a st = _
    rw [Jvm.Cond.before_and, ih, List.all_cons]
def words1 : List Jvm.Cond := Jvm.Cond.code x code maxLocals ret :: tables_1
/-- a 'code' word, met by the world's own term for the bytes: nothing is compared byte by byte -/
theorem code_word {y : MethodName} {bytes : ByteArray} {mx : Nat} {rt : Option FieldType} {a : Array Value} {s : State} {m : MethodId} {meth : Method} {c : Code} (h1 : s.methodNamed? y = some m) (h2 : s.vm.method? m = some meth) (h3 : meth.code = some c) (h4 : c.code = bytes)
    (h5 : (c.maxLocals == mx && c.exceptionTable.isEmpty && decide (c.maxStack ≤ mostOperands) && decide (meth.sig.returnType = rt) && !meth.locks && decide (parseMethodDescriptor y.desc = some meth.sig)) = true) : (Jvm.Cond.code y bytes mx rt).before a s = true := by
  simp only [Bool.and_eq_true, beq_iff_eq, Bool.not_eq_true', decide_eq_true_eq] at h5
  obtain ⟨⟨⟨⟨⟨g1, g2⟩, g3⟩, g4⟩, g5⟩, g6⟩ := h5
  simp [Cond.before, Cond.holds, Cond.value, h1, h2, h3, h4, g1, g2, g3, g4, g5, g6]
def isCode : Jvm.Cond → Bool
  | .code _ _ _ _ => true
  | _ => false
theorem all_split {L : List Jvm.Cond} {P : Jvm.Cond → Bool} (h1 : L.all (fun c => isCode c || P c) = true) (h2 : ∀ c ∈ L.filter isCode, P c = true) : L.all P = true := by
  refine List.all_eq_true.mpr fun c hc => ?_
  have h := List.all_eq_true.mp h1 c hc
  rcases Bool.eq_false_or_eq_true (isCode c) with hi | hi
  · exact h2 c (List.mem_filter.mpr ⟨hc, hi⟩)
  · simpa [hi] using h
set_option maxRecDepth 65536 in
theorem w_c0 : (Jvm.Cond.code x code maxLocals ret).before args0 about1 = true := code_word (m := ⟨1, 1⟩) (meth := k1m1) (c := k1c1) (by decide +kernel) rfl rfl rfl (by decide +kernel)
set_option maxRecDepth 65536 in
theorem w_c1 : (Jvm.Cond.code ({ cls := "java/lang/Math", name := "min", desc := "(II)I" } : Jvm.MethodName) jdk_29_method_69_code (2 : Nat) (Option.some Jvm.ClassFile.FieldType.int)).before args0 about1 = true := code_word (m := ⟨2, 1⟩) (meth := k2m1) (c := k2c1) (by decide +kernel) rfl rfl rfl (by decide +kernel)
set_option maxRecDepth 65536 in
theorem w_c2 : (Jvm.Cond.code ({ cls := "com/example/horatius/horatius/core/PageSummary", name := "<init>", desc := "(IILcom/example/horatius/horatius/core/NodeKind;III[I)V" } : Jvm.MethodName) prog_23_method_2_code (9 : Nat) (Option.none : Option Jvm.ClassFile.FieldType)).before args0 about1 = true := code_word (m := ⟨3, 1⟩) (meth := k3m1) (c := k3c1) (by decide +kernel) rfl rfl rfl (by decide +kernel)
set_option maxRecDepth 65536 in
theorem w_c3 : (Jvm.Cond.code ({ cls := "java/lang/Object", name := "<init>", desc := "()V" } : Jvm.MethodName) object_method_1_code (1 : Nat) (Option.none : Option Jvm.ClassFile.FieldType)).before args0 about1 = true := code_word (m := ⟨0, 0⟩) (meth := k0m0) (c := k0c0) (by decide +kernel) rfl rfl rfl (by decide +kernel)
set_option maxRecDepth 65536 in
theorem w_c4 : (Jvm.Cond.code ({ cls := "java/util/Objects", name := "requireNonNull", desc := "(Ljava/lang/Object;)Ljava/lang/Object;" } : Jvm.MethodName) jdk_31_method_10_code (1 : Nat) (Option.some (Jvm.ClassFile.FieldType.object "java/lang/Object"))).before args0 about1 = true := code_word (m := ⟨9, 1⟩) (meth := k9m1) (c := k9c1) (by decide +kernel) rfl rfl rfl (by decide +kernel)
set_option maxRecDepth 65536 in
theorem w_c5 : (Jvm.Cond.code ({ cls := "com/example/horatius/horatius/core/OutlinePage", name := "<init>", desc := "(IILcom/example/horatius/horatius/core/PageSummary;Lcom/example/horatius/horatius/core/PageSummary;I)V" } : Jvm.MethodName) prog_19_method_1_code (8 : Nat) (Option.none : Option Jvm.ClassFile.FieldType)).before args0 about1 = true := code_word (m := ⟨11, 0⟩) (meth := k11m0) (c := k11c0) (by decide +kernel) rfl rfl rfl (by decide +kernel)
set_option maxRecDepth 65536 in
theorem w_c6 : (Jvm.Cond.code ({ cls := "com/example/horatius/horatius/core/PageSummary", name := "<init>", desc := "()V" } : Jvm.MethodName) prog_23_method_1_code (1 : Nat) (Option.none : Option Jvm.ClassFile.FieldType)).before args0 about1 = true := code_word (m := ⟨3, 0⟩) (meth := k3m0) (c := k3c0) (by decide +kernel) rfl rfl rfl (by decide +kernel)
set_option maxRecDepth 65536 in
theorem w_c7 : (Jvm.Cond.code ({ cls := "com/example/horatius/horatius/core/PageSummary", name := "lastKind", desc := "()Lcom/example/horatius/horatius/core/NodeKind;" } : Jvm.MethodName) prog_23_method_6_code (1 : Nat) (Option.some (Jvm.ClassFile.FieldType.object "com/example/horatius/horatius/core/NodeKind"))).before args0 about1 = true := code_word (m := ⟨3, 4⟩) (meth := k3m4) (c := k3c4) (by decide +kernel) rfl rfl rfl (by decide +kernel)
set_option maxRecDepth 65536 in
theorem w_c8 : (Jvm.Cond.code ({ cls := "com/example/horatius/horatius/core/PageSummary", name := "lastDepth", desc := "()I" } : Jvm.MethodName) prog_23_method_7_code (1 : Nat) (Option.some Jvm.ClassFile.FieldType.int)).before args0 about1 = true := code_word (m := ⟨3, 5⟩) (meth := k3m5) (c := k3c5) (by decide +kernel) rfl rfl rfl (by decide +kernel)
set_option maxRecDepth 65536 in
theorem w_c9 : (Jvm.Cond.code ({ cls := "com/example/horatius/horatius/core/PageSummary", name := "nodes", desc := "()I" } : Jvm.MethodName) prog_23_method_4_code (1 : Nat) (Option.some Jvm.ClassFile.FieldType.int)).before args0 about1 = true := code_word (m := ⟨3, 3⟩) (meth := k3m3) (c := k3c3) (by decide +kernel) rfl rfl rfl (by decide +kernel)
set_option maxRecDepth 65536 in
theorem w_c10 : (Jvm.Cond.code ({ cls := "com/example/horatius/horatius/core/OutlinePage", name := "addElement", desc := "(IIZ)V" } : Jvm.MethodName) prog_19_method_3_code (6 : Nat) (Option.none : Option Jvm.ClassFile.FieldType)).before args0 about1 = true := code_word (m := ⟨11, 1⟩) (meth := k11m1) (c := k11c1) (by decide +kernel) rfl rfl rfl (by decide +kernel)
set_option maxRecDepth 65536 in
theorem w_c11 : (Jvm.Cond.code ({ cls := "com/example/horatius/horatius/core/OutlinePage", name := "placeChild", desc := "(Lcom/example/horatius/horatius/core/NodeKind;I)I" } : Jvm.MethodName) prog_19_method_23_code (3 : Nat) (Option.some Jvm.ClassFile.FieldType.int)).before args0 about1 = true := code_word (m := ⟨11, 7⟩) (meth := k11m7) (c := k11c7) (by decide +kernel) rfl rfl rfl (by decide +kernel)
set_option maxRecDepth 65536 in
theorem w_c12 : (Jvm.Cond.code ({ cls := "com/example/horatius/horatius/core/OutlinePage", name := "checkStarted", desc := "()V" } : Jvm.MethodName) prog_19_method_26_code (1 : Nat) (Option.none : Option Jvm.ClassFile.FieldType)).before args0 about1 = true := code_word (m := ⟨11, 9⟩) (meth := k11m9) (c := k11c9) (by decide +kernel) rfl rfl rfl (by decide +kernel)
set_option maxRecDepth 65536 in
theorem w_c13 : (Jvm.Cond.code ({ cls := "java/lang/Enum", name := "ordinal", desc := "()I" } : Jvm.MethodName) jdk_37_method_2_code (1 : Nat) (Option.some Jvm.ClassFile.FieldType.int)).before args0 about1 = true := code_word (m := ⟨7, 0⟩) (meth := k7m0) (c := k7c0) (by decide +kernel) rfl rfl rfl (by decide +kernel)
set_option maxRecDepth 65536 in
theorem w_c14 : (Jvm.Cond.code ({ cls := "com/example/horatius/horatius/core/OutlinePage", name := "checkedName", desc := "(I)I" } : Jvm.MethodName) prog_19_method_25_code (2 : Nat) (Option.some Jvm.ClassFile.FieldType.int)).before args0 about1 = true := code_word (m := ⟨11, 8⟩) (meth := k11m8) (c := k11c8) (by decide +kernel) rfl rfl rfl (by decide +kernel)
set_option maxRecDepth 65536 in
theorem w_c15 : (Jvm.Cond.code ({ cls := "com/example/horatius/horatius/core/OutlinePage", name := "add", desc := "(IIII)V" } : Jvm.MethodName) prog_19_method_27_code (7 : Nat) (Option.none : Option Jvm.ClassFile.FieldType)).before args0 about1 = true := code_word (m := ⟨11, 10⟩) (meth := k11m10) (c := k11c10) (by decide +kernel) rfl rfl rfl (by decide +kernel)
set_option maxRecDepth 65536 in
theorem w_c16 : (Jvm.Cond.code ({ cls := "com/example/horatius/horatius/core/OutlinePage", name := "attributeType", desc := "(I)Lcom/example/horatius/horatius/core/AttributeType;" } : Jvm.MethodName) prog_19_method_16_code (2 : Nat) (Option.some (Jvm.ClassFile.FieldType.object "com/example/horatius/horatius/core/AttributeType"))).before args0 about1 = true := code_word (m := ⟨11, 5⟩) (meth := k11m5) (c := k11c5) (by decide +kernel) rfl rfl rfl (by decide +kernel)
set_option maxRecDepth 65536 in
theorem w_c17 : (Jvm.Cond.code ({ cls := "com/example/horatius/horatius/core/OutlinePage", name := "kind", desc := "(I)Lcom/example/horatius/horatius/core/NodeKind;" } : Jvm.MethodName) prog_19_method_14_code (2 : Nat) (Option.some (Jvm.ClassFile.FieldType.object "com/example/horatius/horatius/core/NodeKind"))).before args0 about1 = true := code_word (m := ⟨11, 4⟩) (meth := k11m4) (c := k11c4) (by decide +kernel) rfl rfl rfl (by decide +kernel)
set_option maxRecDepth 65536 in
theorem w_c18 : (Jvm.Cond.code ({ cls := "com/example/horatius/horatius/core/PageSummary", name := "add", desc := "(Lcom/example/horatius/horatius/core/NodeKind;ILcom/example/horatius/horatius/core/AttributeType;)V" } : Jvm.MethodName) prog_23_method_3_code (4 : Nat) (Option.none : Option Jvm.ClassFile.FieldType)).before args0 about1 = true := code_word (m := ⟨3, 2⟩) (meth := k3m2) (c := k3c2) (by decide +kernel) rfl rfl rfl (by decide +kernel)
set_option maxRecDepth 65536 in
theorem w_c19 : (Jvm.Cond.code ({ cls := "com/example/horatius/horatius/core/OutlinePage", name := "end", desc := "()V" } : Jvm.MethodName) prog_19_method_8_code (1 : Nat) (Option.none : Option Jvm.ClassFile.FieldType)).before args0 about1 = true := code_word (m := ⟨11, 2⟩) (meth := k11m2) (c := k11c2) (by decide +kernel) rfl rfl rfl (by decide +kernel)
set_option maxRecDepth 65536 in
theorem w_c20 : (Jvm.Cond.code ({ cls := "com/example/horatius/horatius/core/PageSummary", name := "equals", desc := "(Ljava/lang/Object;)Z" } : Jvm.MethodName) prog_23_method_11_code (3 : Nat) (Option.some Jvm.ClassFile.FieldType.boolean)).before args0 about1 = true := code_word (m := ⟨3, 6⟩) (meth := k3m6) (c := k3c6) (by decide +kernel) rfl rfl rfl (by decide +kernel)
set_option maxRecDepth 65536 in
theorem w_c21 : (Jvm.Cond.code ({ cls := "java/util/Arrays", name := "equals", desc := "([III[III)Z" } : Jvm.MethodName) jdk_65_method_84_code (8 : Nat) (Option.some Jvm.ClassFile.FieldType.boolean)).before args0 about1 = true := code_word (m := ⟨13, 3⟩) (meth := k13m3) (c := k13c3) (by decide +kernel) rfl rfl rfl (by decide +kernel)
set_option maxRecDepth 65536 in
theorem w_c22 : (Jvm.Cond.code ({ cls := "java/util/Arrays", name := "rangeCheck", desc := "(III)V" } : Jvm.MethodName) jdk_65_method_30_code (3 : Nat) (Option.none : Option Jvm.ClassFile.FieldType)).before args0 about1 = true := code_word (m := ⟨13, 2⟩) (meth := k13m2) (c := k13c2) (by decide +kernel) rfl rfl rfl (by decide +kernel)
set_option maxRecDepth 65536 in
theorem w_c23 : (Jvm.Cond.code ({ cls := "jdk/internal/util/ArraysSupport", name := "mismatch", desc := "([II[III)I" } : Jvm.MethodName) jdk_48_method_20_code (8 : Nat) (Option.some Jvm.ClassFile.FieldType.int)).before args0 about1 = true := code_word (m := ⟨14, 1⟩) (meth := k14m1) (c := k14c1) (by decide +kernel) rfl rfl rfl (by decide +kernel)
set_option maxRecDepth 65536 in
theorem w_c24 : (Jvm.Cond.code ({ cls := "com/example/horatius/horatius/core/OutlinePage", name := "shallowest", desc := "(III)[I" } : Jvm.MethodName) prog_19_method_9_code (8 : Nat) (Option.some (Jvm.ClassFile.FieldType.array Jvm.ClassFile.FieldType.int))).before args0 about1 = true := code_word (m := ⟨11, 3⟩) (meth := k11m3) (c := k11c3) (by decide +kernel) rfl rfl rfl (by decide +kernel)
set_option maxRecDepth 65536 in
theorem w_c25 : (Jvm.Cond.code ({ cls := "java/util/Arrays", name := "copyOf", desc := "([II)[I" } : Jvm.MethodName) jdk_65_method_123_code (3 : Nat) (Option.some (Jvm.ClassFile.FieldType.array Jvm.ClassFile.FieldType.int))).before args0 about1 = true := code_word (m := ⟨13, 4⟩) (meth := k13m4) (c := k13c4) (by decide +kernel) rfl rfl rfl (by decide +kernel)
set_option maxRecDepth 65536 in
theorem w_c26 : (Jvm.Cond.code ({ cls := "java/util/Arrays", name := "sort", desc := "([I)V" } : Jvm.MethodName) jdk_65_method_2_code (1 : Nat) (Option.none : Option Jvm.ClassFile.FieldType)).before args0 about1 = true := code_word (m := ⟨13, 1⟩) (meth := k13m1) (c := k13c1) (by decide +kernel) rfl rfl rfl (by decide +kernel)
set_option maxRecDepth 65536 in
theorem w_c27 : (Jvm.Cond.code ({ cls := "java/util/DualPivotQuicksort", name := "sort", desc := "([IIII)V" } : Jvm.MethodName) jdk_2529_method_3_code (7 : Nat) (Option.none : Option Jvm.ClassFile.FieldType)).before args0 about1 = true := code_word (m := ⟨16, 1⟩) (meth := k16m1) (c := k16c1) (by decide +kernel) rfl rfl rfl (by decide +kernel)
set_option maxRecDepth 65536 in
theorem w_c28 : (Jvm.Cond.code ({ cls := "java/util/DualPivotQuicksort", name := "sort", desc := "(Ljava/util/DualPivotQuicksort$Sorter;[IIII)V" } : Jvm.MethodName) jdk_2529_method_4_code (21 : Nat) (Option.none : Option Jvm.ClassFile.FieldType)).before args0 about1 = true := code_word (m := ⟨16, 2⟩) (meth := k16m2) (c := k16c2) (by decide +kernel) rfl rfl rfl (by decide +kernel)
set_option maxRecDepth 65536 in
theorem w_c29 : (Jvm.Cond.code ({ cls := "java/util/DualPivotQuicksort", name := "insertionSort", desc := "([III)V" } : Jvm.MethodName) jdk_2529_method_6_code (6 : Nat) (Option.none : Option Jvm.ClassFile.FieldType)).before args0 about1 = true := code_word (m := ⟨16, 3⟩) (meth := k16m3) (c := k16c3) (by decide +kernel) rfl rfl rfl (by decide +kernel)
set_option maxRecDepth 65536 in
theorem w_c30 : (Jvm.Cond.code ({ cls := "com/example/horatius/horatius/core/OutlinePage", name := "lastAtOrAbove", desc := "(I)I" } : Jvm.MethodName) prog_19_method_22_code (5 : Nat) (Option.some Jvm.ClassFile.FieldType.int)).before args0 about1 = true := code_word (m := ⟨11, 6⟩) (meth := k11m6) (c := k11c6) (by decide +kernel) rfl rfl rfl (by decide +kernel)
def codes1 : List Jvm.Cond := [Jvm.Cond.code x code maxLocals ret, Jvm.Cond.code ({ cls := "java/lang/Math", name := "min", desc := "(II)I" } : Jvm.MethodName) jdk_29_method_69_code (2 : Nat) (Option.some Jvm.ClassFile.FieldType.int), Jvm.Cond.code ({ cls := "com/example/horatius/horatius/core/PageSummary", name := "<init>", desc := "(IILcom/example/horatius/horatius/core/NodeKind;III[I)V" } : Jvm.MethodName) prog_23_method_2_code (9 : Nat) (Option.none : Option Jvm.ClassFile.FieldType), Jvm.Cond.code ({ cls := "java/lang/Object", name := "<init>", desc := "()V" } : Jvm.MethodName) object_method_1_code (1 : Nat) (Option.none : Option Jvm.ClassFile.FieldType), Jvm.Cond.code ({ cls := "java/util/Objects", name := "requireNonNull", desc := "(Ljava/lang/Object;)Ljava/lang/Object;" } : Jvm.MethodName) jdk_31_method_10_code (1 : Nat) (Option.some (Jvm.ClassFile.FieldType.object "java/lang/Object")), Jvm.Cond.code ({ cls := "com/example/horatius/horatius/core/OutlinePage", name := "<init>", desc := "(IILcom/example/horatius/horatius/core/PageSummary;Lcom/example/horatius/horatius/core/PageSummary;I)V" } : Jvm.MethodName) prog_19_method_1_code (8 : Nat) (Option.none : Option Jvm.ClassFile.FieldType), Jvm.Cond.code ({ cls := "com/example/horatius/horatius/core/PageSummary", name := "<init>", desc := "()V" } : Jvm.MethodName) prog_23_method_1_code (1 : Nat) (Option.none : Option Jvm.ClassFile.FieldType), Jvm.Cond.code ({ cls := "com/example/horatius/horatius/core/PageSummary", name := "lastKind", desc := "()Lcom/example/horatius/horatius/core/NodeKind;" } : Jvm.MethodName) prog_23_method_6_code (1 : Nat) (Option.some (Jvm.ClassFile.FieldType.object "com/example/horatius/horatius/core/NodeKind")), Jvm.Cond.code ({ cls := "com/example/horatius/horatius/core/PageSummary", name := "lastDepth", desc := "()I" } : Jvm.MethodName) prog_23_method_7_code (1 : Nat) (Option.some Jvm.ClassFile.FieldType.int), Jvm.Cond.code ({ cls := "com/example/horatius/horatius/core/PageSummary", name := "nodes", desc := "()I" } : Jvm.MethodName) prog_23_method_4_code (1 : Nat) (Option.some Jvm.ClassFile.FieldType.int), Jvm.Cond.code ({ cls := "com/example/horatius/horatius/core/OutlinePage", name := "addElement", desc := "(IIZ)V" } : Jvm.MethodName) prog_19_method_3_code (6 : Nat) (Option.none : Option Jvm.ClassFile.FieldType), Jvm.Cond.code ({ cls := "com/example/horatius/horatius/core/OutlinePage", name := "placeChild", desc := "(Lcom/example/horatius/horatius/core/NodeKind;I)I" } : Jvm.MethodName) prog_19_method_23_code (3 : Nat) (Option.some Jvm.ClassFile.FieldType.int), Jvm.Cond.code ({ cls := "com/example/horatius/horatius/core/OutlinePage", name := "checkStarted", desc := "()V" } : Jvm.MethodName) prog_19_method_26_code (1 : Nat) (Option.none : Option Jvm.ClassFile.FieldType), Jvm.Cond.code ({ cls := "java/lang/Enum", name := "ordinal", desc := "()I" } : Jvm.MethodName) jdk_37_method_2_code (1 : Nat) (Option.some Jvm.ClassFile.FieldType.int), Jvm.Cond.code ({ cls := "com/example/horatius/horatius/core/OutlinePage", name := "checkedName", desc := "(I)I" } : Jvm.MethodName) prog_19_method_25_code (2 : Nat) (Option.some Jvm.ClassFile.FieldType.int), Jvm.Cond.code ({ cls := "com/example/horatius/horatius/core/OutlinePage", name := "add", desc := "(IIII)V" } : Jvm.MethodName) prog_19_method_27_code (7 : Nat) (Option.none : Option Jvm.ClassFile.FieldType), Jvm.Cond.code ({ cls := "com/example/horatius/horatius/core/OutlinePage", name := "attributeType", desc := "(I)Lcom/example/horatius/horatius/core/AttributeType;" } : Jvm.MethodName) prog_19_method_16_code (2 : Nat) (Option.some (Jvm.ClassFile.FieldType.object "com/example/horatius/horatius/core/AttributeType")), Jvm.Cond.code ({ cls := "com/example/horatius/horatius/core/OutlinePage", name := "kind", desc := "(I)Lcom/example/horatius/horatius/core/NodeKind;" } : Jvm.MethodName) prog_19_method_14_code (2 : Nat) (Option.some (Jvm.ClassFile.FieldType.object "com/example/horatius/horatius/core/NodeKind")), Jvm.Cond.code ({ cls := "com/example/horatius/horatius/core/PageSummary", name := "add", desc := "(Lcom/example/horatius/horatius/core/NodeKind;ILcom/example/horatius/horatius/core/AttributeType;)V" } : Jvm.MethodName) prog_23_method_3_code (4 : Nat) (Option.none : Option Jvm.ClassFile.FieldType), Jvm.Cond.code ({ cls := "com/example/horatius/horatius/core/OutlinePage", name := "end", desc := "()V" } : Jvm.MethodName) prog_19_method_8_code (1 : Nat) (Option.none : Option Jvm.ClassFile.FieldType), Jvm.Cond.code ({ cls := "com/example/horatius/horatius/core/PageSummary", name := "equals", desc := "(Ljava/lang/Object;)Z" } : Jvm.MethodName) prog_23_method_11_code (3 : Nat) (Option.some Jvm.ClassFile.FieldType.boolean), Jvm.Cond.code ({ cls := "java/util/Arrays", name := "equals", desc := "([III[III)Z" } : Jvm.MethodName) jdk_65_method_84_code (8 : Nat) (Option.some Jvm.ClassFile.FieldType.boolean), Jvm.Cond.code ({ cls := "java/util/Arrays", name := "rangeCheck", desc := "(III)V" } : Jvm.MethodName) jdk_65_method_30_code (3 : Nat) (Option.none : Option Jvm.ClassFile.FieldType), Jvm.Cond.code ({ cls := "jdk/internal/util/ArraysSupport", name := "mismatch", desc := "([II[III)I" } : Jvm.MethodName) jdk_48_method_20_code (8 : Nat) (Option.some Jvm.ClassFile.FieldType.int), Jvm.Cond.code ({ cls := "com/example/horatius/horatius/core/OutlinePage", name := "shallowest", desc := "(III)[I" } : Jvm.MethodName) prog_19_method_9_code (8 : Nat) (Option.some (Jvm.ClassFile.FieldType.array Jvm.ClassFile.FieldType.int)), Jvm.Cond.code ({ cls := "java/util/Arrays", name := "copyOf", desc := "([II)[I" } : Jvm.MethodName) jdk_65_method_123_code (3 : Nat) (Option.some (Jvm.ClassFile.FieldType.array Jvm.ClassFile.FieldType.int)), Jvm.Cond.code ({ cls := "java/util/Arrays", name := "sort", desc := "([I)V" } : Jvm.MethodName) jdk_65_method_2_code (1 : Nat) (Option.none : Option Jvm.ClassFile.FieldType), Jvm.Cond.code ({ cls := "java/util/DualPivotQuicksort", name := "sort", desc := "([IIII)V" } : Jvm.MethodName) jdk_2529_method_3_code (7 : Nat) (Option.none : Option Jvm.ClassFile.FieldType), Jvm.Cond.code ({ cls := "java/util/DualPivotQuicksort", name := "sort", desc := "(Ljava/util/DualPivotQuicksort$Sorter;[IIII)V" } : Jvm.MethodName) jdk_2529_method_4_code (21 : Nat) (Option.none : Option Jvm.ClassFile.FieldType), Jvm.Cond.code ({ cls := "java/util/DualPivotQuicksort", name := "insertionSort", desc := "([III)V" } : Jvm.MethodName) jdk_2529_method_6_code (6 : Nat) (Option.none : Option Jvm.ClassFile.FieldType), Jvm.Cond.code ({ cls := "com/example/horatius/horatius/core/OutlinePage", name := "lastAtOrAbove", desc := "(I)I" } : Jvm.MethodName) prog_19_method_22_code (5 : Nat) (Option.some Jvm.ClassFile.FieldType.int)]
set_option maxRecDepth 65536 in
theorem codes_eq : words1.filter isCode = codes1 := rfl
theorem w_codes : ∀ c ∈ words1.filter isCode, c.before args0 about1 = true := by
  rw [codes_eq]
  intro c hc
  simp only [codes1, List.mem_cons, List.not_mem_nil, or_false] at hc
  rcases hc with rfl | rfl | rfl | rfl | rfl | rfl | rfl | rfl | rfl | rfl | rfl | rfl | rfl | rfl | rfl | rfl | rfl | rfl | rfl | rfl | rfl | rfl | rfl | rfl | rfl | rfl | rfl | rfl | rfl | rfl | rfl
  · exact w_c0
  · exact w_c1
  · exact w_c2
  · exact w_c3
  · exact w_c4
  · exact w_c5
  · exact w_c6
  · exact w_c7
  · exact w_c8
  · exact w_c9
  · exact w_c10
  · exact w_c11
  · exact w_c12
  · exact w_c13
  · exact w_c14
  · exact w_c15
  · exact w_c16
  · exact w_c17
  · exact w_c18
  · exact w_c19
  · exact w_c20
  · exact w_c21
  · exact w_c22
  · exact w_c23
  · exact w_c24
  · exact w_c25
  · exact w_c26
  · exact w_c27
  · exact w_c28
  · exact w_c29
  · exact w_c30
set_option maxRecDepth 65536 in
theorem w_t1 : (words1.take 24).all (fun c => isCode c || c.before args0 about1) = true := by decide +kernel
set_option maxRecDepth 65536 in
theorem w_t2 : ((words1.drop 24).take 24).all (fun c => isCode c || c.before args0 about1) = true := by decide +kernel
set_option maxRecDepth 65536 in
theorem w_t3 : (((words1.drop 24).drop 24).take 24).all (fun c => isCode c || c.before args0 about1) = true := by decide +kernel
set_option maxRecDepth 65536 in
theorem w_t4 : ((((words1.drop 24).drop 24).drop 24).take 24).all (fun c => isCode c || c.before args0 about1) = true := by decide +kernel
set_option maxRecDepth 65536 in
theorem w_t5 : (((((words1.drop 24).drop 24).drop 24).drop 24).take 24).all (fun c => isCode c || c.before args0 about1) = true := by decide +kernel
set_option maxRecDepth 65536 in
theorem w_t6 : ((((((words1.drop 24).drop 24).drop 24).drop 24).drop 24).take 24).all (fun c => isCode c || c.before args0 about1) = true := by decide +kernel
set_option maxRecDepth 65536 in
theorem w_t7 : (((((((words1.drop 24).drop 24).drop 24).drop 24).drop 24).drop 24).take 24).all (fun c => isCode c || c.before args0 about1) = true := by decide +kernel
set_option maxRecDepth 65536 in
theorem w_t8 : ((((((((words1.drop 24).drop 24).drop 24).drop 24).drop 24).drop 24).drop 24).take 24).all (fun c => isCode c || c.before args0 about1) = true := by decide +kernel
set_option maxRecDepth 65536 in
theorem w_t9 : (((((((((words1.drop 24).drop 24).drop 24).drop 24).drop 24).drop 24).drop 24).drop 24).take 24).all (fun c => isCode c || c.before args0 about1) = true := by decide +kernel
set_option maxRecDepth 65536 in
theorem w_t10 : (((((((((words1.drop 24).drop 24).drop 24).drop 24).drop 24).drop 24).drop 24).drop 24).drop 24).all (fun c => isCode c || c.before args0 about1) = true := by decide +kernel
theorem w_tables : (allAtoms (Jvm.Cond.code x code maxLocals ret :: tables_1)).before args0 about1 = true := by
  rw [allAtoms_all]
  show words1.all (fun c => c.before args0 about1) = true
  refine all_split ?_ w_codes
  rw [← List.take_append_drop 24 words1, List.all_append, w_t1, ← List.take_append_drop 24 (words1.drop 24), List.all_append, w_t2, ← List.take_append_drop 24 ((words1.drop 24).drop 24), List.all_append, w_t3, ← List.take_append_drop 24 (((words1.drop 24).drop 24).drop 24), List.all_append, w_t4, ← List.take_append_drop 24 ((((words1.drop 24).drop 24).drop 24).drop 24), List.all_append, w_t5, ← List.take_append_drop 24 (((((words1.drop 24).drop 24).drop 24).drop 24).drop 24), List.all_append, w_t6, ← List.take_append_drop 24 ((((((words1.drop 24).drop 24).drop 24).drop 24).drop 24).drop 24), List.all_append, w_t7, ← List.take_append_drop 24 (((((((words1.drop 24).drop 24).drop 24).drop 24).drop 24).drop 24).drop 24), List.all_append, w_t8, ← List.take_append_drop 24 ((((((((words1.drop 24).drop 24).drop 24).drop 24).drop 24).drop 24).drop 24).drop 24), List.all_append, w_t9, w_t10]
  rfl
set_option maxRecDepth 65536 in
theorem w_case : (Jvm.Cond.and given_1 narrow_1).before args0 about1 = true := by decide +kernel
theorem w_applies : (headSpec (Jvm.Cond.code x code maxLocals ret :: tables_1) room_1).applies x e0.platform about1 = true :=
  (Spec.applies_iff w_frames).mpr ⟨w_running, w_runnable, w_alone, w_named, w_hears, w_ripe, w_room, w_tables⟩
theorem atStart : AtStart classFile x code maxLocals ret World_1 tables_1 room_1 Calls_1 rest_1 Pre_1 launch0 p0 e0 about1 theMethod args0 below0 :=
  ⟨lists_1, trivial, launch0.admits_env _ _ _, launch0.least_env, fairChoices_fair.cas, fairChoices_fair.clock, w_frames, w_args, w_heap, w_applies, trivial, trivial, w_case⟩
end start1
theorem witness_1 : WitnessClaimed_1 := ⟨start1.p0, start1.e0, start1.about1, start1.theMethod, start1.args0, start1.below0, start1.atStart⟩
end Jvm.Pilot.@@N@@
