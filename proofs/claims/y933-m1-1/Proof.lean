import JvmDerived
import JvmDerived.Pilot.@@N@@Statement
import JvmDerived.Pilot.@@N@@Code
set_option linter.unusedVariables false
set_option linter.unusedSimpArgs false
namespace Jvm.Pilot.@@N@@
open Jvm Jvm.ClassFile Sem Op Lib Jvm.Free Jvm.Stand Jvm.LawKit Jvm.RoadKit Bundle Jvm.Pilot.@@N@@.Jvm.D
section Own
theorem cut {P G : Prop} (f : P → G) (g : P) : G := f g
theorem ha_ge {h0 h : Heap} {a : Addr} (q : h0.size ≤ h.size) (e : a = h.size) : h0.size ≤ a := by rw [e]; exact q
/-- what stands fixed in one invocation's walk -/
abbrev Ev : Type := Program × Launch × Env × Room × State × MethodId × Array Value × List Frame × Method × Code × Nat × (Option Value → Heap → Prop)
def Dc (bytes : ByteArray) (pc : Nat) (i : Instr) (len pc' : Nat) : Prop := decode bytes pc = .ok (i, len) ∧ pc + len = pc'
def Db (bytes : ByteArray) (pc : Nat) (i : Instr) (o : Int) (pc1 pc2 : Nat) : Prop := decode bytes pc = .ok (i, 3) ∧ pc + 3 = pc1 ∧ 0 ≤ (pc : Int) + o ∧ ((pc : Int) + o).toNat = pc2
/-- from this heap, these counts, pc, locals and stack the invocation comes to a return of which its Q holds -/
def Wk : Ev → Heap → Nat → Nat → Nat → Array Slot → List Value → Prop
  | (p, l, e, R, s, m, args, below, meth, c, n0, Q), h, kc, kn, pc, ls, st => ∀ (T : State) (locs : List Loc), Stand p l e R s m args below meth c T locs kc kn → T.heap = h → Fr n0 locs →
    ∃ s₂ o, Steps p.tables e below (T.setTop (mkF m pc ls st)) s₂ ∧ s₂.status = .running ∧ Ended s₂ below o ∧ ∃ v L, o = .returned v ∧ (Q v s₂.heap ∧ Fr n0 L) ∧ FrameEnd s o s₂ L R.cells R.slots
def Kf (p : Program) (s : State) (m : MethodId) (meth : Method) (c : Code) (y : MethodName) (bytes : ByteArray) (ml : Nat) (rt : Option FieldType) (Z : State) (n0 : Nat) : Prop :=
  p.tables.exec = Jvm.exec ∧ c.code = bytes ∧ c.maxLocals = ml ∧ meth.sig.returnType = rt ∧ meth.locks = false ∧ Z.Warmed39 s.vm ∧ s.vm.findClass y.cls = some m.cls ∧ meth.name = y.name ∧ n0 ≤ s.heap.size
def Kx (E : Ev) (y : MethodName) (bytes : ByteArray) (ml : Nat) (rt : Option FieldType) (l : Launch) (Z : State) (R : Room) (n0 : Nat) (Q : Option Value → Heap → Prop) : Prop :=
  ∃ p e s m args below meth c, E = (p, l, e, R, s, m, args, below, meth, c, n0, Q) ∧ Kf p s m meth c y bytes ml rt Z n0
/-- a callee's contract at one heap and one row of arguments -/
def Con (l : Launch) (Z : State) (y : MethodName) (bytes : ByteArray) (ml : Nat) (rt : Option FieldType) (rm : Room) (as : Array Value) (h : Heap) (n0 : Nat) (Q : Option Value → Heap → Prop) : Prop :=
  n0 ≤ h.size → ∀ ws : List Jvm.Cond, MetFree l y (head1 (Jvm.Cond.code y bytes ml rt :: ws) rm) (fun a U => a = as ∧ Z.Warmed39 U.vm ∧ U.heap = h) (fun _ _ _ _ _ => True) (fun _ U o U' => ∃ v L, o = .returned v ∧ (Q v U'.heap ∧ Fr n0 L) ∧ FrameEnd U o U' L rm.cells rm.slots)
variable {E : Ev} {y : MethodName} {bytes : ByteArray} {ml : Nat} {rt : Option FieldType} {l : Launch} {Z : State} {R : Room} {n0 : Nat} {Q : Option Value → Heap → Prop} {a0 : Array Value} {h h' : Heap} {kc kn kc' kn' pc pc' pc1 pc2 : Nat} {ls ls' : Array Slot} {st : List Value} {a b : Addr}
theorem Con.of (pn : plainFor y = true) {as : Array Value} {rm : Room} (ef : ∀ m, entryFrame m as ml = mkF m 0 ls []) (body : ∀ E : Ev, Kx E y bytes ml rt l Z rm n0 Q → Wk E h 0 0 0 ls []) : Con l Z y bytes ml rt rm as h n0 Q := by
  intro hn ws
  refine MetFree.of_bodySF pn hisR ?_
  intro p e s m args below meth c s₁ Bd hml0 hP hK
  obtain ⟨ha, hZ, hh⟩ := hP
  subst ha
  have X0 : Stand p l e rm s m args below meth c s₁ [] 0 0 := Stand.of_body Bd
  have e0 : s₁.heap = h := by rw [← hh, Bd.state]; rfl
  obtain ⟨s₂, o, q, r⟩ := body (p, l, e, rm, s, m, args, below, meth, c, n0, Q) ⟨p, e, s, m, args, below, meth, c, rfl, Bd.exec, Bd.bytes, hml0, Bd.returns, Bd.notSynchronized, hZ, findClass_of_methodNamed Bd.named, (name_of_methodNamed Bd.named Bd.method).1, by rw [hh]; exact hn⟩ s₁ [] X0 e0 (Fr.nil n0)
  exact ⟨s₂, o, castTop (ef m) q, r⟩
theorem Kx.lift {st' : List Value} (K : Kx E y bytes ml rt l Z R n0 Q) (f : ∀ (p : Program) (e : Env) (s : State) (m : MethodId) (args : Array Value) (below : List Frame) (meth : Method) (c : Code), Kf p s m meth c y bytes ml rt Z n0 → ∀ (T : State) (locs : List Loc), Stand p l e R s m args below meth c T locs kc kn → T.heap = h → ∀ t, Steps p.tables e below (T.setTop (mkF m pc' ls' st)) t → Steps p.tables e below (T.setTop (mkF m pc ls st')) t) (k : Wk E h kc kn pc' ls' st) : Wk E h kc kn pc ls st' := by
  obtain ⟨p, e, s, m, args, below, meth, c, rfl, F⟩ := K
  intro T locs X eT N
  obtain ⟨s₂, o, q, r⟩ := k T locs X eT N
  exact ⟨s₂, o, f p e s m args below meth c F T locs X eT s₂ q, r⟩
theorem Kx.move (K : Kx E y bytes ml rt l Z R n0 Q) (f : ∀ (p : Program) (e : Env) (s : State) (m : MethodId) (args : Array Value) (below : List Frame) (meth : Method) (c : Code), Kf p s m meth c y bytes ml rt Z n0 → ∀ (T : State) (locs : List Loc), Stand p l e R s m args below meth c T locs kc kn → T.heap = h → Fr n0 locs →
    ∃ (T' : State) (locs' : List Loc) (h' : Heap) (kc' kn' pc' : Nat) (ls' : Array Slot) (st' : List Value), Stand p l e R s m args below meth c T' locs' kc' kn' ∧ T'.heap = h' ∧ Fr n0 locs' ∧ h.size ≤ h'.size ∧ Wk E h' kc' kn' pc' ls' st' ∧ ∀ t, Steps p.tables e below (T'.setTop (mkF m pc' ls' st')) t → Steps p.tables e below (T.setTop (mkF m pc ls st)) t) : Wk E h kc kn pc ls st := by
  obtain ⟨p, e, s, m, args, below, meth, c, rfl, F⟩ := K
  intro T locs X eT N
  obtain ⟨T', locs', h', kc', kn', pc', ls', st', X', e', N', -, k, q'⟩ := f p e s m args below meth c F T locs X eT N
  obtain ⟨s₂, o, q, r⟩ := k T' locs' X' e' N'
  exact ⟨s₂, o, q' _ q, r⟩

theorem Kx.aloadN (K : Kx E y bytes ml rt l Z R n0 Q) {k : Fin 4} {v : Value} (hd : Dc bytes pc (.aload_n k) 1 pc') (hl : ls[k.val]? = some (.val v)) (hv : v.isRef = true) (k : Wk E h kc kn pc' ls (v :: st)) : Wk E h kc kn pc ls st := by
  obtain ⟨hd, rfl⟩ := hd
  exact K.lift (fun p e s m args below meth c F T locs X eT t q => XS.aloadN X.here F.1 rfl (hb F.2.1 hd) hl hv q) k
theorem Kx.iloadN (K : Kx E y bytes ml rt l Z R n0 Q) {k : Fin 4} {v : Int32} (hd : Dc bytes pc (.iload_n k) 1 pc') (hl : ls[k.val]? = some (.val (.int v))) (k : Wk E h kc kn pc' ls (.int v :: st)) : Wk E h kc kn pc ls st := by
  obtain ⟨hd, rfl⟩ := hd
  exact K.lift (fun p e s m args below meth c F T locs X eT t q => XS.iloadN X.here F.1 rfl (hb F.2.1 hd) hl q) k
theorem Kx.lloadN (K : Kx E y bytes ml rt l Z R n0 Q) {k : Fin 4} {v : Int64} (hd : Dc bytes pc (.lload_n k) 1 pc') (hl : ls[k.val]? = some (.val (.long v))) (k : Wk E h kc kn pc' ls (.long v :: st)) : Wk E h kc kn pc ls st := by
  obtain ⟨hd, rfl⟩ := hd
  exact K.lift (fun p e s m args below meth c F T locs X eT t q => XS.lloadN X.here F.1 rfl (hb F.2.1 hd) hl q) k
theorem Kx.istoreN (K : Kx E y bytes ml rt l Z R n0 Q) {k : Fin 4} {x : Int32} (ls' : Array Slot) (hd : Dc bytes pc (.istore_n k) 1 pc') (hl : storeLocals ls k.val (.int x) = some ls') (k : Wk E h kc kn pc' ls' st) : Wk E h kc kn pc ls (.int x :: st) := by
  obtain ⟨hd, rfl⟩ := hd
  exact K.lift (fun p e s m args below meth c F T locs X eT t q => XS.istoreN X.here F.1 rfl (hb F.2.1 hd) rfl hl q) k
theorem Kx.lstoreN (K : Kx E y bytes ml rt l Z R n0 Q) {k : Fin 4} {x : Int64} (ls' : Array Slot) (hd : Dc bytes pc (.lstore_n k) 1 pc') (hl : storeLocals ls k.val (.long x) = some ls') (k : Wk E h kc kn pc' ls' st) : Wk E h kc kn pc ls (.long x :: st) := by
  obtain ⟨hd, rfl⟩ := hd
  exact K.lift (fun p e s m args below meth c F T locs X eT t q => XS.lstoreN X.here F.1 rfl (hb F.2.1 hd) rfl hl q) k
theorem Kx.astoreN (K : Kx E y bytes ml rt l Z R n0 Q) {k : Fin 4} {x : Value} (ls' : Array Slot) (hd : Dc bytes pc (.astore_n k) 1 pc') (hv : x.isRef = true) (hl : storeLocals ls k.val x = some ls') (k : Wk E h kc kn pc' ls' st) : Wk E h kc kn pc ls (x :: st) := by
  obtain ⟨hd, rfl⟩ := hd
  exact K.lift (fun p e s m args below meth c F T locs X eT t q => XS.astoreN X.here F.1 rfl (hb F.2.1 hd) rfl hv hl q) k
theorem Kx.aload (K : Kx E y bytes ml rt l Z R n0 Q) {k : Nat} {v : Value} (hd : Dc bytes pc (.aload k) 2 pc') (hl : ls[k]? = some (.val v)) (hv : v.isRef = true) (k : Wk E h kc kn pc' ls (v :: st)) : Wk E h kc kn pc ls st := by
  obtain ⟨hd, rfl⟩ := hd
  exact K.lift (fun p e s m args below meth c F T locs X eT t q => XS.aload X.here F.1 rfl (hb F.2.1 hd) hl hv q) k
theorem Kx.iload (K : Kx E y bytes ml rt l Z R n0 Q) {k : Nat} {v : Int32} (hd : Dc bytes pc (.iload k) 2 pc') (hl : ls[k]? = some (.val (.int v))) (k : Wk E h kc kn pc' ls (.int v :: st)) : Wk E h kc kn pc ls st := by
  obtain ⟨hd, rfl⟩ := hd
  exact K.lift (fun p e s m args below meth c F T locs X eT t q => XS.iload X.here F.1 rfl (hb F.2.1 hd) hl q) k
theorem Kx.lload (K : Kx E y bytes ml rt l Z R n0 Q) {k : Nat} {v : Int64} (hd : Dc bytes pc (.lload k) 2 pc') (hl : ls[k]? = some (.val (.long v))) (k : Wk E h kc kn pc' ls (.long v :: st)) : Wk E h kc kn pc ls st := by
  obtain ⟨hd, rfl⟩ := hd
  exact K.lift (fun p e s m args below meth c F T locs X eT t q => XS.lload X.here F.1 rfl (hb F.2.1 hd) hl q) k
theorem Kx.istore (K : Kx E y bytes ml rt l Z R n0 Q) {k : Nat} {x : Int32} (ls' : Array Slot) (hd : Dc bytes pc (.istore k) 2 pc') (hl : storeLocals ls k (.int x) = some ls') (k : Wk E h kc kn pc' ls' st) : Wk E h kc kn pc ls (.int x :: st) := by
  obtain ⟨hd, rfl⟩ := hd
  exact K.lift (fun p e s m args below meth c F T locs X eT t q => XS.istore X.here F.1 rfl (hb F.2.1 hd) rfl hl q) k
theorem Kx.lstore (K : Kx E y bytes ml rt l Z R n0 Q) {k : Nat} {x : Int64} (ls' : Array Slot) (hd : Dc bytes pc (.lstore k) 2 pc') (hl : storeLocals ls k (.long x) = some ls') (k : Wk E h kc kn pc' ls' st) : Wk E h kc kn pc ls (.long x :: st) := by
  obtain ⟨hd, rfl⟩ := hd
  exact K.lift (fun p e s m args below meth c F T locs X eT t q => XS.lstore X.here F.1 rfl (hb F.2.1 hd) rfl hl q) k
theorem Kx.astore (K : Kx E y bytes ml rt l Z R n0 Q) {k : Nat} {x : Value} (ls' : Array Slot) (hd : Dc bytes pc (.astore k) 2 pc') (hv : x.isRef = true) (hl : storeLocals ls k x = some ls') (k : Wk E h kc kn pc' ls' st) : Wk E h kc kn pc ls (x :: st) := by
  obtain ⟨hd, rfl⟩ := hd
  exact K.lift (fun p e s m args below meth c F T locs X eT t q => XS.astore X.here F.1 rfl (hb F.2.1 hd) rfl hv hl q) k
theorem Kx.iinc (K : Kx E y bytes ml rt l Z R n0 Q) {k : Nat} {cst : Int} {x : Int32} (z : Int32) (ls' : Array Slot) (hd : Dc bytes pc (.iinc k cst) 3 pc') (hl : ls[k]? = some (.val (.int x))) (hz : x + Int32.ofInt cst = z) (hl' : storeLocals ls k (.int z) = some ls') (k : Wk E h kc kn pc' ls' st) : Wk E h kc kn pc ls st := by
  obtain ⟨hd, rfl⟩ := hd
  exact K.lift (fun p e s m args below meth c F T locs X eT t q => XS.iinc X.here F.1 rfl (hb F.2.1 hd) hl (by rw [hz]; exact hl') q) k
theorem Kx.iconst (K : Kx E y bytes ml rt l Z R n0 Q) {i : Int} (z : Int32) (hd : Dc bytes pc (.iconst i) 1 pc') (hz : Int32.ofInt i = z) (k : Wk E h kc kn pc' ls (.int z :: st)) : Wk E h kc kn pc ls st := by
  obtain ⟨hd, rfl⟩ := hd
  exact K.lift (fun p e s m args below meth c F T locs X eT t q => XS.iconst X.here F.1 rfl (hb F.2.1 hd) (by rw [hz]; exact q)) k
theorem Kx.lconst (K : Kx E y bytes ml rt l Z R n0 Q) {i : Fin 2} (z : Int64) (hd : Dc bytes pc (.lconst i) 1 pc') (hz : Int64.ofNat i = z) (k : Wk E h kc kn pc' ls (.long z :: st)) : Wk E h kc kn pc ls st := by
  obtain ⟨hd, rfl⟩ := hd
  exact K.lift (fun p e s m args below meth c F T locs X eT t q => XS.lconst X.here F.1 rfl (hb F.2.1 hd) (by rw [hz]; exact q)) k
theorem Kx.bipush (K : Kx E y bytes ml rt l Z R n0 Q) {i : Int} (z : Int32) (hd : Dc bytes pc (.bipush i) 2 pc') (hz : (Int8.ofInt i).toInt32 = z) (k : Wk E h kc kn pc' ls (.int z :: st)) : Wk E h kc kn pc ls st := by
  obtain ⟨hd, rfl⟩ := hd
  exact K.lift (fun p e s m args below meth c F T locs X eT t q => XS.bipush X.here F.1 rfl (hb F.2.1 hd) (by rw [hz]; exact q)) k
theorem Kx.sipush (K : Kx E y bytes ml rt l Z R n0 Q) {i : Int} (z : Int32) (hd : Dc bytes pc (.sipush i) 3 pc') (hz : (Int16.ofInt i).toInt32 = z) (k : Wk E h kc kn pc' ls (.int z :: st)) : Wk E h kc kn pc ls st := by
  obtain ⟨hd, rfl⟩ := hd
  exact K.lift (fun p e s m args below meth c F T locs X eT t q => XS.sipush X.here F.1 rfl (hb F.2.1 hd) (by rw [hz]; exact q)) k
theorem Kx.aconst_null (K : Kx E y bytes ml rt l Z R n0 Q)  (hd : Dc bytes pc .aconst_null 1 pc') (k : Wk E h kc kn pc' ls (.null :: st)) : Wk E h kc kn pc ls st := by
  obtain ⟨hd, rfl⟩ := hd
  exact K.lift (fun p e s m args below meth c F T locs X eT t q => XS.aconstNull X.here F.1 rfl (hb F.2.1 hd) q) k
theorem Kx.iadd (K : Kx E y bytes ml rt l Z R n0 Q) {x y' : Int32} (hd : Dc bytes pc .iadd 1 pc') (k : Wk E h kc kn pc' ls (.int (x + y') :: st)) : Wk E h kc kn pc ls (.int y' :: .int x :: st) := by
  obtain ⟨hd, rfl⟩ := hd
  exact K.lift (fun p e s m args below meth c F T locs X eT t q => XS.iadd X.here F.1 rfl (hb F.2.1 hd) rfl q) k
theorem Kx.isub (K : Kx E y bytes ml rt l Z R n0 Q) {x y' : Int32} (hd : Dc bytes pc .isub 1 pc') (k : Wk E h kc kn pc' ls (.int (x - y') :: st)) : Wk E h kc kn pc ls (.int y' :: .int x :: st) := by
  obtain ⟨hd, rfl⟩ := hd
  exact K.lift (fun p e s m args below meth c F T locs X eT t q => XS.isub X.here F.1 rfl (hb F.2.1 hd) rfl q) k
theorem Kx.imul (K : Kx E y bytes ml rt l Z R n0 Q) {x y' : Int32} (hd : Dc bytes pc .imul 1 pc') (k : Wk E h kc kn pc' ls (.int (x * y') :: st)) : Wk E h kc kn pc ls (.int y' :: .int x :: st) := by
  obtain ⟨hd, rfl⟩ := hd
  exact K.lift (fun p e s m args below meth c F T locs X eT t q => XS.imul X.here F.1 rfl (hb F.2.1 hd) rfl q) k
theorem Kx.iand (K : Kx E y bytes ml rt l Z R n0 Q) {x y' : Int32} (hd : Dc bytes pc .iand 1 pc') (k : Wk E h kc kn pc' ls (.int (x &&& y') :: st)) : Wk E h kc kn pc ls (.int y' :: .int x :: st) := by
  obtain ⟨hd, rfl⟩ := hd
  exact K.lift (fun p e s m args below meth c F T locs X eT t q => XS.iand X.here F.1 rfl (hb F.2.1 hd) rfl q) k
theorem Kx.ior (K : Kx E y bytes ml rt l Z R n0 Q) {x y' : Int32} (hd : Dc bytes pc .ior 1 pc') (k : Wk E h kc kn pc' ls (.int (x ||| y') :: st)) : Wk E h kc kn pc ls (.int y' :: .int x :: st) := by
  obtain ⟨hd, rfl⟩ := hd
  exact K.lift (fun p e s m args below meth c F T locs X eT t q => XS.ior X.here F.1 rfl (hb F.2.1 hd) rfl q) k
theorem Kx.ixor (K : Kx E y bytes ml rt l Z R n0 Q) {x y' : Int32} (hd : Dc bytes pc .ixor 1 pc') (k : Wk E h kc kn pc' ls (.int (x ^^^ y') :: st)) : Wk E h kc kn pc ls (.int y' :: .int x :: st) := by
  obtain ⟨hd, rfl⟩ := hd
  exact K.lift (fun p e s m args below meth c F T locs X eT t q => XS.ixor X.here F.1 rfl (hb F.2.1 hd) rfl q) k
theorem Kx.ishl (K : Kx E y bytes ml rt l Z R n0 Q) {x y' : Int32} (hd : Dc bytes pc .ishl 1 pc') (k : Wk E h kc kn pc' ls (.int (x <<< (y' &&& 31)) :: st)) : Wk E h kc kn pc ls (.int y' :: .int x :: st) := by
  obtain ⟨hd, rfl⟩ := hd
  exact K.lift (fun p e s m args below meth c F T locs X eT t q => XS.ishl X.here F.1 rfl (hb F.2.1 hd) rfl q) k
theorem Kx.ishr (K : Kx E y bytes ml rt l Z R n0 Q) {x y' : Int32} (hd : Dc bytes pc .ishr 1 pc') (k : Wk E h kc kn pc' ls (.int (x >>> (y' &&& 31)) :: st)) : Wk E h kc kn pc ls (.int y' :: .int x :: st) := by
  obtain ⟨hd, rfl⟩ := hd
  exact K.lift (fun p e s m args below meth c F T locs X eT t q => XS.ishr X.here F.1 rfl (hb F.2.1 hd) rfl q) k
theorem Kx.iushr (K : Kx E y bytes ml rt l Z R n0 Q) {x y' : Int32} (hd : Dc bytes pc .iushr 1 pc') (k : Wk E h kc kn pc' ls (.int ((x.toUInt32 >>> (y' &&& 31).toUInt32).toInt32) :: st)) : Wk E h kc kn pc ls (.int y' :: .int x :: st) := by
  obtain ⟨hd, rfl⟩ := hd
  exact K.lift (fun p e s m args below meth c F T locs X eT t q => XS.iushr X.here F.1 rfl (hb F.2.1 hd) rfl q) k
theorem Kx.ladd (K : Kx E y bytes ml rt l Z R n0 Q) {x y' : Int64} (hd : Dc bytes pc .ladd 1 pc') (k : Wk E h kc kn pc' ls (.long (x + y') :: st)) : Wk E h kc kn pc ls (.long y' :: .long x :: st) := by
  obtain ⟨hd, rfl⟩ := hd
  exact K.lift (fun p e s m args below meth c F T locs X eT t q => XS.ladd X.here F.1 rfl (hb F.2.1 hd) rfl q) k
theorem Kx.lsub (K : Kx E y bytes ml rt l Z R n0 Q) {x y' : Int64} (hd : Dc bytes pc .lsub 1 pc') (k : Wk E h kc kn pc' ls (.long (x - y') :: st)) : Wk E h kc kn pc ls (.long y' :: .long x :: st) := by
  obtain ⟨hd, rfl⟩ := hd
  exact K.lift (fun p e s m args below meth c F T locs X eT t q => XS.lsub X.here F.1 rfl (hb F.2.1 hd) rfl q) k
theorem Kx.lmul (K : Kx E y bytes ml rt l Z R n0 Q) {x y' : Int64} (hd : Dc bytes pc .lmul 1 pc') (k : Wk E h kc kn pc' ls (.long (x * y') :: st)) : Wk E h kc kn pc ls (.long y' :: .long x :: st) := by
  obtain ⟨hd, rfl⟩ := hd
  exact K.lift (fun p e s m args below meth c F T locs X eT t q => XS.lmul X.here F.1 rfl (hb F.2.1 hd) rfl q) k
theorem Kx.land (K : Kx E y bytes ml rt l Z R n0 Q) {x y' : Int64} (hd : Dc bytes pc .land 1 pc') (k : Wk E h kc kn pc' ls (.long (x &&& y') :: st)) : Wk E h kc kn pc ls (.long y' :: .long x :: st) := by
  obtain ⟨hd, rfl⟩ := hd
  exact K.lift (fun p e s m args below meth c F T locs X eT t q => XS.land X.here F.1 rfl (hb F.2.1 hd) rfl q) k
theorem Kx.lor (K : Kx E y bytes ml rt l Z R n0 Q) {x y' : Int64} (hd : Dc bytes pc .lor 1 pc') (k : Wk E h kc kn pc' ls (.long (x ||| y') :: st)) : Wk E h kc kn pc ls (.long y' :: .long x :: st) := by
  obtain ⟨hd, rfl⟩ := hd
  exact K.lift (fun p e s m args below meth c F T locs X eT t q => XS.lor X.here F.1 rfl (hb F.2.1 hd) rfl q) k
theorem Kx.lxor (K : Kx E y bytes ml rt l Z R n0 Q) {x y' : Int64} (hd : Dc bytes pc .lxor 1 pc') (k : Wk E h kc kn pc' ls (.long (x ^^^ y') :: st)) : Wk E h kc kn pc ls (.long y' :: .long x :: st) := by
  obtain ⟨hd, rfl⟩ := hd
  exact K.lift (fun p e s m args below meth c F T locs X eT t q => XS.lxor X.here F.1 rfl (hb F.2.1 hd) rfl q) k
theorem Kx.lshl (K : Kx E y bytes ml rt l Z R n0 Q) {x : Int64} {y' : Int32} (hd : Dc bytes pc .lshl 1 pc') (k : Wk E h kc kn pc' ls (.long (x <<< (y' &&& 63).toInt64) :: st)) : Wk E h kc kn pc ls (.int y' :: .long x :: st) := by
  obtain ⟨hd, rfl⟩ := hd
  exact K.lift (fun p e s m args below meth c F T locs X eT t q => XS.lshl X.here F.1 rfl (hb F.2.1 hd) rfl q) k
theorem Kx.lshr (K : Kx E y bytes ml rt l Z R n0 Q) {x : Int64} {y' : Int32} (hd : Dc bytes pc .lshr 1 pc') (k : Wk E h kc kn pc' ls (.long (x >>> (y' &&& 63).toInt64) :: st)) : Wk E h kc kn pc ls (.int y' :: .long x :: st) := by
  obtain ⟨hd, rfl⟩ := hd
  exact K.lift (fun p e s m args below meth c F T locs X eT t q => XS.lshr X.here F.1 rfl (hb F.2.1 hd) rfl q) k
theorem Kx.lushr (K : Kx E y bytes ml rt l Z R n0 Q) {x : Int64} {y' : Int32} (hd : Dc bytes pc .lushr 1 pc') (k : Wk E h kc kn pc' ls (.long ((x.toUInt64 >>> (y' &&& 63).toInt64.toUInt64).toInt64) :: st)) : Wk E h kc kn pc ls (.int y' :: .long x :: st) := by
  obtain ⟨hd, rfl⟩ := hd
  exact K.lift (fun p e s m args below meth c F T locs X eT t q => XS.lushr X.here F.1 rfl (hb F.2.1 hd) rfl q) k
theorem Kx.idiv (K : Kx E y bytes ml rt l Z R n0 Q) {x y' : Int32} (hd : Dc bytes pc .idiv 1 pc') (hy : y' ≠ 0) (k : Wk E h kc kn pc' ls (.int (x / y') :: st)) : Wk E h kc kn pc ls (.int y' :: .int x :: st) := by
  obtain ⟨hd, rfl⟩ := hd
  exact K.lift (fun p e s m args below meth c F T locs X eT t q => XS.idiv X.here F.1 rfl (hb F.2.1 hd) rfl hy q) k
theorem Kx.irem (K : Kx E y bytes ml rt l Z R n0 Q) {x y' : Int32} (hd : Dc bytes pc .irem 1 pc') (hy : y' ≠ 0) (k : Wk E h kc kn pc' ls (.int (x % y') :: st)) : Wk E h kc kn pc ls (.int y' :: .int x :: st) := by
  obtain ⟨hd, rfl⟩ := hd
  exact K.lift (fun p e s m args below meth c F T locs X eT t q => RoadKit.iremM X F.1 rfl (hb F.2.1 hd) rfl hy q) k
theorem Kx.ldiv (K : Kx E y bytes ml rt l Z R n0 Q) {x y' : Int64} (hd : Dc bytes pc .ldiv 1 pc') (hy : y' ≠ 0) (k : Wk E h kc kn pc' ls (.long (x / y') :: st)) : Wk E h kc kn pc ls (.long y' :: .long x :: st) := by
  obtain ⟨hd, rfl⟩ := hd
  exact K.lift (fun p e s m args below meth c F T locs X eT t q => XS.ldiv X.here F.1 rfl (hb F.2.1 hd) rfl hy q) k
theorem Kx.lrem (K : Kx E y bytes ml rt l Z R n0 Q) {x y' : Int64} (hd : Dc bytes pc .lrem 1 pc') (hy : y' ≠ 0) (k : Wk E h kc kn pc' ls (.long (x % y') :: st)) : Wk E h kc kn pc ls (.long y' :: .long x :: st) := by
  obtain ⟨hd, rfl⟩ := hd
  exact K.lift (fun p e s m args below meth c F T locs X eT t q => XS.lrem X.here F.1 rfl (hb F.2.1 hd) rfl hy (by rw [lrem_mod]; exact q)) k
theorem Kx.ineg (K : Kx E y bytes ml rt l Z R n0 Q) {x : Int32} (hd : Dc bytes pc .ineg 1 pc') (k : Wk E h kc kn pc' ls (.int (-x) :: st)) : Wk E h kc kn pc ls (.int x :: st) := by
  obtain ⟨hd, rfl⟩ := hd
  exact K.lift (fun p e s m args below meth c F T locs X eT t q => XS.ineg X.here F.1 rfl (hb F.2.1 hd) rfl q) k
theorem Kx.lneg (K : Kx E y bytes ml rt l Z R n0 Q) {x : Int64} (hd : Dc bytes pc .lneg 1 pc') (k : Wk E h kc kn pc' ls (.long (-x) :: st)) : Wk E h kc kn pc ls (.long x :: st) := by
  obtain ⟨hd, rfl⟩ := hd
  exact K.lift (fun p e s m args below meth c F T locs X eT t q => XS.lneg X.here F.1 rfl (hb F.2.1 hd) rfl q) k
theorem Kx.i2l (K : Kx E y bytes ml rt l Z R n0 Q) {x : Int32} (hd : Dc bytes pc .i2l 1 pc') (k : Wk E h kc kn pc' ls (.long (x.toInt64) :: st)) : Wk E h kc kn pc ls (.int x :: st) := by
  obtain ⟨hd, rfl⟩ := hd
  exact K.lift (fun p e s m args below meth c F T locs X eT t q => XS.i2l X.here F.1 rfl (hb F.2.1 hd) rfl q) k
theorem Kx.l2i (K : Kx E y bytes ml rt l Z R n0 Q) {x : Int64} (hd : Dc bytes pc .l2i 1 pc') (k : Wk E h kc kn pc' ls (.int (x.toInt32) :: st)) : Wk E h kc kn pc ls (.long x :: st) := by
  obtain ⟨hd, rfl⟩ := hd
  exact K.lift (fun p e s m args below meth c F T locs X eT t q => XS.l2i X.here F.1 rfl (hb F.2.1 hd) rfl q) k
theorem Kx.i2b (K : Kx E y bytes ml rt l Z R n0 Q) {x : Int32} (hd : Dc bytes pc .i2b 1 pc') (k : Wk E h kc kn pc' ls (.int (x.toInt8.toInt32) :: st)) : Wk E h kc kn pc ls (.int x :: st) := by
  obtain ⟨hd, rfl⟩ := hd
  exact K.lift (fun p e s m args below meth c F T locs X eT t q => XS.i2b X.here F.1 rfl (hb F.2.1 hd) rfl q) k
theorem Kx.i2c (K : Kx E y bytes ml rt l Z R n0 Q) {x : Int32} (hd : Dc bytes pc .i2c 1 pc') (k : Wk E h kc kn pc' ls (.int (x.toUInt32.toUInt16.toUInt32.toInt32) :: st)) : Wk E h kc kn pc ls (.int x :: st) := by
  obtain ⟨hd, rfl⟩ := hd
  exact K.lift (fun p e s m args below meth c F T locs X eT t q => XS.i2c X.here F.1 rfl (hb F.2.1 hd) rfl q) k
theorem Kx.i2s (K : Kx E y bytes ml rt l Z R n0 Q) {x : Int32} (hd : Dc bytes pc .i2s 1 pc') (k : Wk E h kc kn pc' ls (.int (x.toInt16.toInt32) :: st)) : Wk E h kc kn pc ls (.int x :: st) := by
  obtain ⟨hd, rfl⟩ := hd
  exact K.lift (fun p e s m args below meth c F T locs X eT t q => XS.i2s X.here F.1 rfl (hb F.2.1 hd) rfl q) k
theorem Kx.dup (K : Kx E y bytes ml rt l Z R n0 Q) {x : Value} (hd : Dc bytes pc .dup 1 pc') (hc : x.category = 1) (k : Wk E h kc kn pc' ls (x :: x :: st)) : Wk E h kc kn pc ls (x :: st) := by
  obtain ⟨hd, rfl⟩ := hd
  exact K.lift (fun p e s m args below meth c F T locs X eT t q => XS.dup X.here F.1 rfl (hb F.2.1 hd) rfl hc q) k
theorem Kx.pop (K : Kx E y bytes ml rt l Z R n0 Q) {x : Value} (hd : Dc bytes pc .pop 1 pc') (hc : x.category = 1) (k : Wk E h kc kn pc' ls st) : Wk E h kc kn pc ls (x :: st) := by
  obtain ⟨hd, rfl⟩ := hd
  exact K.lift (fun p e s m args below meth c F T locs X eT t q => XS.pop X.here F.1 rfl (hb F.2.1 hd) rfl hc q) k
theorem Kx.dup_x1 (K : Kx E y bytes ml rt l Z R n0 Q) {x x' : Value} (hd : Dc bytes pc .dup_x1 1 pc') (hc : x.category = 1) (hc' : x'.category = 1) (k : Wk E h kc kn pc' ls (x :: x' :: x :: st)) : Wk E h kc kn pc ls (x :: x' :: st) := by
  obtain ⟨hd, rfl⟩ := hd
  exact K.lift (fun p e s m args below meth c F T locs X eT t q => XS.dupX1 X.here F.1 rfl (hb F.2.1 hd) rfl hc hc' q) k
theorem Kx.dup2 (K : Kx E y bytes ml rt l Z R n0 Q) {x x' : Value} (hd : Dc bytes pc .dup2 1 pc') (hc : x.category = 1) (hc' : x'.category = 1) (k : Wk E h kc kn pc' ls (x :: x' :: x :: x' :: st)) : Wk E h kc kn pc ls (x :: x' :: st) := by
  obtain ⟨hd, rfl⟩ := hd
  exact K.lift (fun p e s m args below meth c F T locs X eT t q => Jvm.Free.XT.dup2 X.here F.1 rfl (hb F.2.1 hd) rfl hc hc' q) k
theorem Kx.ldcI (K : Kx E y bytes ml rt l Z R n0 Q) {i : Nat} {v : Int32} (hd : Dc bytes pc (.ldc i) 2 pc') (w : (Jvm.Cond.constant y.cls i v).before a0 Z = true) (k : Wk E h kc kn pc' ls (.int v :: st)) : Wk E h kc kn pc ls st := by
  obtain ⟨hd, rfl⟩ := hd
  exact K.lift (fun p e s m args below meth c F T locs X eT t q => X.ldcI F.1 F.2.2.2.2.2.2.1 (mvT F.2.2.2.2.2.1 w) rfl (hb F.2.1 hd) q) k
theorem Kx.ldc2J (K : Kx E y bytes ml rt l Z R n0 Q) {i : Nat} {v : Int64} (hd : Dc bytes pc (.ldc2_w i) 3 pc') (w : (Jvm.Cond.constantLong y.cls i v).before a0 Z = true) (k : Wk E h kc kn pc' ls (.long v :: st)) : Wk E h kc kn pc ls st := by
  obtain ⟨hd, rfl⟩ := hd
  exact K.lift (fun p e s m args below meth c F T locs X eT t q => X.ldc2J F.1 F.2.2.2.2.2.2.1 (mvT F.2.2.2.2.2.1 w) rfl (hb F.2.1 hd) q) k
theorem Kx.goto (K : Kx E y bytes ml rt l Z R n0 Q) {o : Int} (hd : Db bytes pc (.goto o) o pc1 pc2) (k : Wk E h kc kn pc2 ls st) : Wk E h kc kn pc ls st := by
  obtain ⟨hd, -, h0, h1⟩ := hd
  exact K.lift (fun p e s m args below meth c F T locs X eT t q => XS.goto X.here F.1 rfl rfl (hb F.2.1 hd) h0 h1 q) k
theorem Kx.ic_eq (K : Kx E y bytes ml rt l Z R n0 Q) {o : Int} {x y' : Int32} (hd : Db bytes pc (.if_icmp .eq o) o pc1 pc2) (k1 : x = y' → Wk E h kc kn pc2 ls st) (k2 : ¬ x = y' → Wk E h kc kn pc1 ls st) : Wk E h kc kn pc ls (.int y' :: .int x :: st) := by
  obtain ⟨hd, rfl, h0, h1⟩ := hd
  by_cases u : x = y'
  · exact K.lift (fun p e s m args below meth c F T locs X eT t q => XS.icmpYes X.here F.1 rfl rfl (hb F.2.1 hd) rfl (teq u).1 h0 h1 q) (k1 u)
  · exact K.lift (fun p e s m args below meth c F T locs X eT t q => XS.icmpNo X.here F.1 rfl (hb F.2.1 hd) rfl (feq u).1 q) (k2 u)
theorem Kx.if_eq (K : Kx E y bytes ml rt l Z R n0 Q) {o : Int} {x : Int32} (hd : Db bytes pc (.ifCond .eq o) o pc1 pc2) (k1 : x = 0 → Wk E h kc kn pc2 ls st) (k2 : ¬ x = 0 → Wk E h kc kn pc1 ls st) : Wk E h kc kn pc ls (.int x :: st) := by
  obtain ⟨hd, rfl, h0, h1⟩ := hd
  by_cases u : x = 0
  · exact K.lift (fun p e s m args below meth c F T locs X eT t q => XS.ifYes X.here F.1 rfl rfl (hb F.2.1 hd) rfl ((if0 _ _).trans (teq u).1) h0 h1 q) (k1 u)
  · exact K.lift (fun p e s m args below meth c F T locs X eT t q => XS.ifNo X.here F.1 rfl (hb F.2.1 hd) rfl ((if0 _ _).trans (feq u).1) q) (k2 u)
theorem Kx.ic_ne (K : Kx E y bytes ml rt l Z R n0 Q) {o : Int} {x y' : Int32} (hd : Db bytes pc (.if_icmp .ne o) o pc1 pc2) (k1 : x = y' → Wk E h kc kn pc1 ls st) (k2 : ¬ x = y' → Wk E h kc kn pc2 ls st) : Wk E h kc kn pc ls (.int y' :: .int x :: st) := by
  obtain ⟨hd, rfl, h0, h1⟩ := hd
  by_cases u : x = y'
  · exact K.lift (fun p e s m args below meth c F T locs X eT t q => XS.icmpNo X.here F.1 rfl (hb F.2.1 hd) rfl (teq u).2 q) (k1 u)
  · exact K.lift (fun p e s m args below meth c F T locs X eT t q => XS.icmpYes X.here F.1 rfl rfl (hb F.2.1 hd) rfl (feq u).2 h0 h1 q) (k2 u)
theorem Kx.if_ne (K : Kx E y bytes ml rt l Z R n0 Q) {o : Int} {x : Int32} (hd : Db bytes pc (.ifCond .ne o) o pc1 pc2) (k1 : x = 0 → Wk E h kc kn pc1 ls st) (k2 : ¬ x = 0 → Wk E h kc kn pc2 ls st) : Wk E h kc kn pc ls (.int x :: st) := by
  obtain ⟨hd, rfl, h0, h1⟩ := hd
  by_cases u : x = 0
  · exact K.lift (fun p e s m args below meth c F T locs X eT t q => XS.ifNo X.here F.1 rfl (hb F.2.1 hd) rfl ((if0 _ _).trans (teq u).2) q) (k1 u)
  · exact K.lift (fun p e s m args below meth c F T locs X eT t q => XS.ifYes X.here F.1 rfl rfl (hb F.2.1 hd) rfl ((if0 _ _).trans (feq u).2) h0 h1 q) (k2 u)
theorem Kx.ic_lt (K : Kx E y bytes ml rt l Z R n0 Q) {o : Int} {x y' : Int32} (hd : Db bytes pc (.if_icmp .lt o) o pc1 pc2) (k1 : x < y' → Wk E h kc kn pc2 ls st) (k2 : ¬ x < y' → Wk E h kc kn pc1 ls st) : Wk E h kc kn pc ls (.int y' :: .int x :: st) := by
  obtain ⟨hd, rfl, h0, h1⟩ := hd
  by_cases u : x < y'
  · exact K.lift (fun p e s m args below meth c F T locs X eT t q => XS.icmpYes X.here F.1 rfl rfl (hb F.2.1 hd) rfl (tlt u).1 h0 h1 q) (k1 u)
  · exact K.lift (fun p e s m args below meth c F T locs X eT t q => XS.icmpNo X.here F.1 rfl (hb F.2.1 hd) rfl (flt u).1 q) (k2 u)
theorem Kx.if_lt (K : Kx E y bytes ml rt l Z R n0 Q) {o : Int} {x : Int32} (hd : Db bytes pc (.ifCond .lt o) o pc1 pc2) (k1 : x < 0 → Wk E h kc kn pc2 ls st) (k2 : ¬ x < 0 → Wk E h kc kn pc1 ls st) : Wk E h kc kn pc ls (.int x :: st) := by
  obtain ⟨hd, rfl, h0, h1⟩ := hd
  by_cases u : x < 0
  · exact K.lift (fun p e s m args below meth c F T locs X eT t q => XS.ifYes X.here F.1 rfl rfl (hb F.2.1 hd) rfl ((if0 _ _).trans (tlt u).1) h0 h1 q) (k1 u)
  · exact K.lift (fun p e s m args below meth c F T locs X eT t q => XS.ifNo X.here F.1 rfl (hb F.2.1 hd) rfl ((if0 _ _).trans (flt u).1) q) (k2 u)
theorem Kx.ic_ge (K : Kx E y bytes ml rt l Z R n0 Q) {o : Int} {x y' : Int32} (hd : Db bytes pc (.if_icmp .ge o) o pc1 pc2) (k1 : x < y' → Wk E h kc kn pc1 ls st) (k2 : ¬ x < y' → Wk E h kc kn pc2 ls st) : Wk E h kc kn pc ls (.int y' :: .int x :: st) := by
  obtain ⟨hd, rfl, h0, h1⟩ := hd
  by_cases u : x < y'
  · exact K.lift (fun p e s m args below meth c F T locs X eT t q => XS.icmpNo X.here F.1 rfl (hb F.2.1 hd) rfl (tlt u).2.1 q) (k1 u)
  · exact K.lift (fun p e s m args below meth c F T locs X eT t q => XS.icmpYes X.here F.1 rfl rfl (hb F.2.1 hd) rfl (flt u).2.1 h0 h1 q) (k2 u)
theorem Kx.if_ge (K : Kx E y bytes ml rt l Z R n0 Q) {o : Int} {x : Int32} (hd : Db bytes pc (.ifCond .ge o) o pc1 pc2) (k1 : x < 0 → Wk E h kc kn pc1 ls st) (k2 : ¬ x < 0 → Wk E h kc kn pc2 ls st) : Wk E h kc kn pc ls (.int x :: st) := by
  obtain ⟨hd, rfl, h0, h1⟩ := hd
  by_cases u : x < 0
  · exact K.lift (fun p e s m args below meth c F T locs X eT t q => XS.ifNo X.here F.1 rfl (hb F.2.1 hd) rfl ((if0 _ _).trans (tlt u).2.1) q) (k1 u)
  · exact K.lift (fun p e s m args below meth c F T locs X eT t q => XS.ifYes X.here F.1 rfl rfl (hb F.2.1 hd) rfl ((if0 _ _).trans (flt u).2.1) h0 h1 q) (k2 u)
theorem Kx.ic_gt (K : Kx E y bytes ml rt l Z R n0 Q) {o : Int} {x y' : Int32} (hd : Db bytes pc (.if_icmp .gt o) o pc1 pc2) (k1 : y' < x → Wk E h kc kn pc2 ls st) (k2 : ¬ y' < x → Wk E h kc kn pc1 ls st) : Wk E h kc kn pc ls (.int y' :: .int x :: st) := by
  obtain ⟨hd, rfl, h0, h1⟩ := hd
  by_cases u : y' < x
  · exact K.lift (fun p e s m args below meth c F T locs X eT t q => XS.icmpYes X.here F.1 rfl rfl (hb F.2.1 hd) rfl (tlt u).2.2.1 h0 h1 q) (k1 u)
  · exact K.lift (fun p e s m args below meth c F T locs X eT t q => XS.icmpNo X.here F.1 rfl (hb F.2.1 hd) rfl (flt u).2.2.1 q) (k2 u)
theorem Kx.if_gt (K : Kx E y bytes ml rt l Z R n0 Q) {o : Int} {x : Int32} (hd : Db bytes pc (.ifCond .gt o) o pc1 pc2) (k1 : 0 < x → Wk E h kc kn pc2 ls st) (k2 : ¬ 0 < x → Wk E h kc kn pc1 ls st) : Wk E h kc kn pc ls (.int x :: st) := by
  obtain ⟨hd, rfl, h0, h1⟩ := hd
  by_cases u : 0 < x
  · exact K.lift (fun p e s m args below meth c F T locs X eT t q => XS.ifYes X.here F.1 rfl rfl (hb F.2.1 hd) rfl ((if0 _ _).trans (tlt u).2.2.1) h0 h1 q) (k1 u)
  · exact K.lift (fun p e s m args below meth c F T locs X eT t q => XS.ifNo X.here F.1 rfl (hb F.2.1 hd) rfl ((if0 _ _).trans (flt u).2.2.1) q) (k2 u)
theorem Kx.ic_le (K : Kx E y bytes ml rt l Z R n0 Q) {o : Int} {x y' : Int32} (hd : Db bytes pc (.if_icmp .le o) o pc1 pc2) (k1 : y' < x → Wk E h kc kn pc1 ls st) (k2 : ¬ y' < x → Wk E h kc kn pc2 ls st) : Wk E h kc kn pc ls (.int y' :: .int x :: st) := by
  obtain ⟨hd, rfl, h0, h1⟩ := hd
  by_cases u : y' < x
  · exact K.lift (fun p e s m args below meth c F T locs X eT t q => XS.icmpNo X.here F.1 rfl (hb F.2.1 hd) rfl (tlt u).2.2.2 q) (k1 u)
  · exact K.lift (fun p e s m args below meth c F T locs X eT t q => XS.icmpYes X.here F.1 rfl rfl (hb F.2.1 hd) rfl (flt u).2.2.2 h0 h1 q) (k2 u)
theorem Kx.if_le (K : Kx E y bytes ml rt l Z R n0 Q) {o : Int} {x : Int32} (hd : Db bytes pc (.ifCond .le o) o pc1 pc2) (k1 : 0 < x → Wk E h kc kn pc1 ls st) (k2 : ¬ 0 < x → Wk E h kc kn pc2 ls st) : Wk E h kc kn pc ls (.int x :: st) := by
  obtain ⟨hd, rfl, h0, h1⟩ := hd
  by_cases u : 0 < x
  · exact K.lift (fun p e s m args below meth c F T locs X eT t q => XS.ifNo X.here F.1 rfl (hb F.2.1 hd) rfl ((if0 _ _).trans (tlt u).2.2.2) q) (k1 u)
  · exact K.lift (fun p e s m args below meth c F T locs X eT t q => XS.ifYes X.here F.1 rfl rfl (hb F.2.1 hd) rfl ((if0 _ _).trans (flt u).2.2.2) h0 h1 q) (k2 u)
theorem Kx.lcmp (K : Kx E y bytes ml rt l Z R n0 Q) {x y' : Int64} (hd : Dc bytes pc .lcmp 1 pc') (k : Wk E h kc kn pc' ls (.int (lcmpW x y') :: st)) : Wk E h kc kn pc ls (.long y' :: .long x :: st) := by
  obtain ⟨hd, rfl⟩ := hd
  exact K.lift (fun p e s m args below meth c F T locs X eT t q => XS.lcmp X.here F.1 rfl (hb F.2.1 hd) rfl q) k
theorem Kx.lc_eq (K : Kx E y bytes ml rt l Z R n0 Q) {o : Int} {x y' : Int64} {pcm : Nat} (hd0 : Dc bytes pc .lcmp 1 pcm) (hd : Db bytes pcm (.ifCond .eq o) o pc1 pc2) (k1 : x = y' → Wk E h kc kn pc2 ls st) (k2 : ¬ x = y' → Wk E h kc kn pc1 ls st) : Wk E h kc kn pc ls (.long y' :: .long x :: st) :=
  K.lcmp hd0 (K.if_eq hd (fun u => k1 ((lw_eq x y').mp u)) (fun u => k2 (fun v => u ((lw_eq x y').mpr v))))
theorem Kx.lc_ne (K : Kx E y bytes ml rt l Z R n0 Q) {o : Int} {x y' : Int64} {pcm : Nat} (hd0 : Dc bytes pc .lcmp 1 pcm) (hd : Db bytes pcm (.ifCond .ne o) o pc1 pc2) (k1 : x = y' → Wk E h kc kn pc1 ls st) (k2 : ¬ x = y' → Wk E h kc kn pc2 ls st) : Wk E h kc kn pc ls (.long y' :: .long x :: st) :=
  K.lcmp hd0 (K.if_ne hd (fun u => k1 ((lw_eq x y').mp u)) (fun u => k2 (fun v => u ((lw_eq x y').mpr v))))
theorem Kx.lc_lt (K : Kx E y bytes ml rt l Z R n0 Q) {o : Int} {x y' : Int64} {pcm : Nat} (hd0 : Dc bytes pc .lcmp 1 pcm) (hd : Db bytes pcm (.ifCond .lt o) o pc1 pc2) (k1 : x < y' → Wk E h kc kn pc2 ls st) (k2 : ¬ x < y' → Wk E h kc kn pc1 ls st) : Wk E h kc kn pc ls (.long y' :: .long x :: st) :=
  K.lcmp hd0 (K.if_lt hd (fun u => k1 ((lw_lt x y').mp u)) (fun u => k2 (fun v => u ((lw_lt x y').mpr v))))
theorem Kx.lc_ge (K : Kx E y bytes ml rt l Z R n0 Q) {o : Int} {x y' : Int64} {pcm : Nat} (hd0 : Dc bytes pc .lcmp 1 pcm) (hd : Db bytes pcm (.ifCond .ge o) o pc1 pc2) (k1 : x < y' → Wk E h kc kn pc1 ls st) (k2 : ¬ x < y' → Wk E h kc kn pc2 ls st) : Wk E h kc kn pc ls (.long y' :: .long x :: st) :=
  K.lcmp hd0 (K.if_ge hd (fun u => k1 ((lw_lt x y').mp u)) (fun u => k2 (fun v => u ((lw_lt x y').mpr v))))
theorem Kx.lc_gt (K : Kx E y bytes ml rt l Z R n0 Q) {o : Int} {x y' : Int64} {pcm : Nat} (hd0 : Dc bytes pc .lcmp 1 pcm) (hd : Db bytes pcm (.ifCond .gt o) o pc1 pc2) (k1 : y' < x → Wk E h kc kn pc2 ls st) (k2 : ¬ y' < x → Wk E h kc kn pc1 ls st) : Wk E h kc kn pc ls (.long y' :: .long x :: st) :=
  K.lcmp hd0 (K.if_gt hd (fun u => k1 ((lw_gt x y').mp u)) (fun u => k2 (fun v => u ((lw_gt x y').mpr v))))
theorem Kx.lc_le (K : Kx E y bytes ml rt l Z R n0 Q) {o : Int} {x y' : Int64} {pcm : Nat} (hd0 : Dc bytes pc .lcmp 1 pcm) (hd : Db bytes pcm (.ifCond .le o) o pc1 pc2) (k1 : y' < x → Wk E h kc kn pc1 ls st) (k2 : ¬ y' < x → Wk E h kc kn pc2 ls st) : Wk E h kc kn pc ls (.long y' :: .long x :: st) :=
  K.lcmp hd0 (K.if_le hd (fun u => k1 ((lw_gt x y').mp u)) (fun u => k2 (fun v => u ((lw_gt x y').mpr v))))
theorem Kx.ifnull_null (K : Kx E y bytes ml rt l Z R n0 Q) {o : Int} (hd : Db bytes pc (.ifnull o) o pc1 pc2) (k : Wk E h kc kn pc2 ls st) : Wk E h kc kn pc ls (.null :: st) := by
  obtain ⟨hd, -, h0, h1⟩ := hd
  exact K.lift (fun p e s m args below meth c F T locs X eT t q => XS.ifnullYes X.here F.1 rfl rfl (hb F.2.1 hd) rfl h0 h1 q) k
theorem Kx.ifnull_ref (K : Kx E y bytes ml rt l Z R n0 Q) {o : Int} (hd : Db bytes pc (.ifnull o) o pc1 pc2) (k : Wk E h kc kn pc1 ls st) : Wk E h kc kn pc ls (.ref a :: st) := by
  obtain ⟨hd, rfl, h0, h1⟩ := hd
  exact K.lift (fun p e s m args below meth c F T locs X eT t q => XS.ifnullNo X.here F.1 rfl (hb F.2.1 hd) rfl q) k
theorem Kx.ifnonnull_ref (K : Kx E y bytes ml rt l Z R n0 Q) {o : Int} (hd : Db bytes pc (.ifnonnull o) o pc1 pc2) (k : Wk E h kc kn pc2 ls st) : Wk E h kc kn pc ls (.ref a :: st) := by
  obtain ⟨hd, -, h0, h1⟩ := hd
  exact K.lift (fun p e s m args below meth c F T locs X eT t q => XS.ifnonnullYes X.here F.1 rfl rfl (hb F.2.1 hd) rfl h0 h1 q) k
theorem Kx.ifnonnull_null (K : Kx E y bytes ml rt l Z R n0 Q) {o : Int} (hd : Db bytes pc (.ifnonnull o) o pc1 pc2) (k : Wk E h kc kn pc1 ls st) : Wk E h kc kn pc ls (.null :: st) := by
  obtain ⟨hd, rfl, h0, h1⟩ := hd
  exact K.lift (fun p e s m args below meth c F T locs X eT t q => XS.ifnonnullNo X.here F.1 rfl (hb F.2.1 hd) rfl q) k
theorem Kx.ldcF (K : Kx E y bytes ml rt l Z R n0 Q) {i : Nat} {v : UInt32} (hd : Dc bytes pc (.ldc i) 2 pc') (w : (Jvm.Cond.constantFloat y.cls i v).before a0 Z = true) (k : Wk E h kc kn pc' ls (.float v :: st)) : Wk E h kc kn pc ls st := by
  obtain ⟨hd, rfl⟩ := hd
  exact K.lift (fun p e s m args below meth c F T locs X eT t q => X.ldcFloatC F.1 F.2.2.2.2.2.2.1 (mvT F.2.2.2.2.2.1 w) (g := mkF m pc ls st) rfl (hb F.2.1 hd) t q) k
/-- an array: its kind, its length, what each place holds -/
def Ia (Z : State) (h : Heap) (a : Addr) (ty : FieldType) (N : Int32) (f : Int32 → Value) : Prop := ∃ c : Cell, Arr Z h a c ty ∧ c.slots.size = N.toNatClampNeg ∧ ¬ N < 0 ∧ ∀ j : Int32, ¬ j < 0 → j < N → c.slots[j.toNatClampNeg]? = some (f j)
theorem Ia.lt {ty : FieldType} {N : Int32} {f : Int32 → Value} (F : Ia Z h a ty N f) : a < h.size := by obtain ⟨c, A, -⟩ := F; exact A.lt
theorem Ia.nn {ty : FieldType} {N : Int32} {f : Int32 → Value} (F : Ia Z h a ty N f) : ¬ N < 0 := by obtain ⟨c, -, -, q, -⟩ := F; exact q
theorem Ia.ext {ty : FieldType} {N : Int32} {f : Int32 → Value} (F : Ia Z h a ty N f) (X : Ext h h') : Ia Z h' a ty N f := by obtain ⟨c, A, r⟩ := F; exact ⟨c, A.ext X, r⟩
theorem Ia.other {ty : FieldType} {N : Int32} {f : Int32 → Value} {sl : Nat} {v : Value} (F : Ia Z h b ty N f) (W : Wr h h' a sl v) (q : b ≠ a) : Ia Z h' b ty N f := by obtain ⟨c, A, r⟩ := F; exact ⟨c, A.other W q, r⟩
theorem Ia.keep {ty : FieldType} {N : Int32} {f : Int32 → Value} {ws : List Addr} (F : Ia Z h a ty N f) (K : Keep h h' ws) (q : a ∉ ws) : Ia Z h' a ty N f := by obtain ⟨c, A, r⟩ := F; exact ⟨c, ⟨K.2.1 a c A.1 q, A.2⟩, r⟩
theorem Ia.congr {ty : FieldType} {N : Int32} {f g : Int32 → Value} (F : Ia Z h a ty N f) (q : ∀ j : Int32, ¬ j < 0 → j < N → f j = g j) : Ia Z h a ty N g := by
  obtain ⟨c, A, r1, r2, r3⟩ := F
  exact ⟨c, A, r1, r2, fun j h1 h2 => by rw [r3 j h1 h2, q j h1 h2]⟩
theorem Ia.set {ty : FieldType} {N j : Int32} {f : Int32 → Value} {v : Value} (F : Ia Z h a ty N f) (W : Wr h h' a j.toNatClampNeg v) (hj : ¬ j < 0) : Ia Z h' a ty N (fun k => if k = j then v else f k) := by
  obtain ⟨c, A, S, M, G⟩ := F
  refine ⟨_, A.same W, by rw [sz_set]; exact S, M, fun k h1 h2 => ?_⟩
  show _ = some (if k = j then v else f k)
  by_cases u : k = j
  · rw [if_pos u]; exact get_hit (inb_of S (u ▸ ⟨h1, h2⟩)) u
  · rw [if_neg u, get_miss hj h1 u]; exact G k h1 h2
theorem Ia.new {ty : FieldType} {N : Int32} {k : ClassId} (A : Arr Z h a (newA k ty N) ty) (q : ¬ N < 0) : Ia Z h a ty N (fun _ => defaultValue ty) :=
  ⟨_, A, sz_new _ _ _, q, fun j h1 h2 => get_new (by have := inb_of (sz_new k ty N) ⟨h1, h2⟩; rw [sz_new] at this; exact this)⟩
theorem Kx.getF (K : Kx E y bytes ml rt l Z R n0 Q) {i : Nat} {O n d : String} {v : Value} (hd : Dc bytes pc (.getfield i) 3 pc') (w : (Jvm.Cond.fieldLink y.cls i O n d).before a0 Z = true) (F : Fld Z h a O n d v) (k : Wk E h kc kn pc' ls (v :: st)) : Wk E h kc kn pc ls (.ref a :: st) := by
  obtain ⟨hd, rfl⟩ := hd
  refine K.move (fun p e s m args below meth c G T locs X eT N => ?_)
  obtain ⟨g1, g2, g3, g4, g5, hZ, hown, g8, g9⟩ := G
  have hn : n0 ≤ h.size := by rw [← eT]; exact Nat.le_trans g9 X.same.2.1
  obtain ⟨T', X', e', q'⟩ := RoadKit.getF X g1 hZ hown (host := "") (Or.inl w) Via.refl eT F (g := mkF m pc ls (.ref a :: st)) rfl rfl (hb g2 hd)
  exact ⟨T', _, _, _, _, _, _, _, X', e', N, (Nat.le_refl _), k, fun t q => q' t q⟩
theorem Kx.putF (K : Kx E y bytes ml rt l Z R n0 Q) {i kk : Nat} {O n d C : String} {ty : FieldType} {v old : Value} (hd : Dc bytes pc (.putfield i) 3 pc') (w : (Jvm.Cond.fieldLink y.cls i O n d).before a0 Z = true) (F : Fld Z h a O n d old) (X0 : Exa Z h a C)
    (L : (Jvm.Cond.lays C O n d).before a0 Z = true ∨ ((Jvm.Cond.laysFinal C O n d).before a0 Z = true ∧ y.cls = O ∧ y.name = "<init>")) (wi : (Jvm.Cond.instantiable C kk).before a0 Z = true) (ht : parseFieldDescriptor d = some ty) (hna : narrow ty v = v) (hf : fits ty v = true) (ge : n0 ≤ a)
    (k : ∀ h', Wr h h' a (RoadKit.slotOf Z O n d) v → Wk E h' kc kn pc' ls st) : Wk E h kc kn pc ls (v :: .ref a :: st) := by
  obtain ⟨hd, rfl⟩ := hd
  refine K.move (fun p e s m args below meth c G T locs X eT N => ?_)
  obtain ⟨g1, g2, g3, g4, g5, hZ, hown, g8, g9⟩ := G
  have hn : n0 ≤ h.size := by rw [← eT]; exact Nat.le_trans g9 X.same.2.1
  obtain ⟨T', h', X', e', W, q'⟩ := RoadKit.putF X g1 hZ hown (host := "") (Or.inl w) Via.refl eT F X0 (L.imp id fun u => ⟨u.1, u.2.1, g8.trans u.2.2⟩) wi ht hna hf (g := mkF m pc ls (v :: .ref a :: st)) rfl rfl (hb g2 hd)
  exact ⟨T', _, _, _, _, _, _, _, X', e', (Fr.snoc X' N ge), (Nat.le_of_eq W.size.symm), k h' W, fun t q => q' t q⟩
theorem Kx.newO (K : Kx E y bytes ml rt l Z R n0 Q) {i sz : Nat} {C : String} (kc' kn' : Nat) (hd : Dc bytes pc (.new i) 3 pc') (w : (Jvm.Cond.classLink y.cls i C).before a0 Z = true) (wi : (Jvm.Cond.instantiable C sz).before a0 Z = true) (wz : (Jvm.Cond.initialized C).before a0 Z = true)
    (hk : kc + 1 = kc') (hk2 : kn + sz = kn') (hc : kc' ≤ R.cells) (hl : kn' ≤ R.slots)
    (k : ∀ h' a, a = h.size → n0 ≤ a → Ext h h' → Exa Z h' a C → (∀ {O nm d : String} {ty : FieldType}, Laid Z a0 C O nm d → parseFieldDescriptor d = some ty → Fld Z h' a O nm d (defaultValue ty)) → Wk E h' kc' kn' pc' ls (.ref a :: st)) : Wk E h kc kn pc ls st := by
  obtain ⟨hd, rfl⟩ := hd
  refine K.move (fun p e s m args below meth c G T locs X eT N => ?_)
  obtain ⟨g1, g2, g3, g4, g5, hZ, hown, g8, g9⟩ := G
  have hn : n0 ≤ h.size := by rw [← eT]; exact Nat.le_trans g9 X.same.2.1
  subst hk hk2
  obtain ⟨T', h', X', e', E', A', D', -, q'⟩ := RoadKit.newO X g1 hZ hown w wi wz eT (g := mkF m pc ls st) rfl (hb g2 hd) hc hl
  exact ⟨T', _, _, _, _, _, _, _, X', e', N, E'.1, k h' h.size rfl hn E' A' D', fun t q => q' t q⟩
theorem Kx.newP (K : Kx E y bytes ml rt l Z R n0 Q) {aty : ArrayType} {N : Int32} {ty : FieldType} {dv : Value} (cap kc' kn' : Nat) (hd : Dc bytes pc (.newarray aty) 2 pc') (w : (Jvm.Cond.arrayClass ty).before a0 Z = true) (hty : newarray.typeOf aty = ty) (hdv : defaultValue ty = dv) (hN : ¬ N < 0) (hcap : N.toNatClampNeg ≤ cap) (h8 : cap * 8 ≤ 536870912)
    (hk : kc + 1 = kc') (hk2 : kn + cap = kn') (hc : kc' ≤ R.cells) (hl : kn' ≤ R.slots)
    (k : ∀ h' a, a = h.size → n0 ≤ a → Ext h h' → Ia Z h' a ty N (fun _ => dv) → Wk E h' kc' kn' pc' ls (.ref a :: st)) : Wk E h kc kn pc ls (.int N :: st) := by
  obtain ⟨hd, rfl⟩ := hd
  refine K.move (fun p e s m args below meth c G T locs X eT N' => ?_)
  obtain ⟨g1, g2, g3, g4, g5, hZ, hown, g8, g9⟩ := G
  have hn : n0 ≤ h.size := by rw [← eT]; exact Nat.le_trans g9 X.same.2.1
  subst hk hk2 hty hdv
  obtain ⟨T', h', cA, X', e', E', A', q'⟩ := RoadKit.newP X g1 hZ w eT (g := mkF m pc ls (.int N :: st)) rfl (hb g2 hd) rfl hN hcap h8 hc hl
  exact ⟨T', _, _, _, _, _, _, _, X', e', N', E'.1, k h' h.size rfl hn E' (Ia.new A' hN), fun t q => q' t q⟩
theorem Kx.newR (K : Kx E y bytes ml rt l Z R n0 Q) {i : Nat} {N : Int32} {C : String} (cap kc' kn' : Nat) (hd : Dc bytes pc (.anewarray i) 3 pc') (w1 : (Jvm.Cond.classLink y.cls i C).before a0 Z = true) (w2 : (Jvm.Cond.arrayOver (.object C)).before a0 Z = true) (hN : ¬ N < 0) (hcap : N.toNatClampNeg ≤ cap) (h8 : cap * 8 ≤ 536870912)
    (hk : kc + 1 = kc') (hk2 : kn + cap = kn') (hc : kc' ≤ R.cells) (hl : kn' ≤ R.slots)
    (k : ∀ h' a, a = h.size → n0 ≤ a → Ext h h' → Ia Z h' a (.object C) N (fun _ => .null) → Wk E h' kc' kn' pc' ls (.ref a :: st)) : Wk E h kc kn pc ls (.int N :: st) := by
  obtain ⟨hd, rfl⟩ := hd
  refine K.move (fun p e s m args below meth c G T locs X eT N' => ?_)
  obtain ⟨g1, g2, g3, g4, g5, hZ, hown, g8, g9⟩ := G
  have hn : n0 ≤ h.size := by rw [← eT]; exact Nat.le_trans g9 X.same.2.1
  subst hk hk2
  obtain ⟨T', h', cA, X', e', E', A', O', q'⟩ := RoadKit.newR X g1 hZ hown w1 w2 eT (g := mkF m pc ls (.int N :: st)) rfl (hb g2 hd) rfl hN hcap h8 hc hl
  exact ⟨T', _, _, _, _, _, _, _, X', e', N', E'.1, k h' h.size rfl hn E' (Ia.new A' hN), fun t q => q' t q⟩
theorem Kx.newRA (K : Kx E y bytes ml rt l Z R n0 Q) {i : Nat} {N : Int32} {C : String} {ty : FieldType} (cap kc' kn' : Nat) (hd : Dc bytes pc (.anewarray i) 3 pc') (hC : (FieldType.array ty).toString = C) (w1 : (Jvm.Cond.classLink y.cls i C).before a0 Z = true) (w2 : (Jvm.Cond.arrayOver (.array ty)).before a0 Z = true) (hN : ¬ N < 0) (hcap : N.toNatClampNeg ≤ cap) (h8 : cap * 8 ≤ 536870912)
    (hk : kc + 1 = kc') (hk2 : kn + cap = kn') (hc : kc' ≤ R.cells) (hl : kn' ≤ R.slots)
    (k : ∀ h' a, a = h.size → n0 ≤ a → Ext h h' → Ia Z h' a (.array ty) N (fun _ => .null) → Wk E h' kc' kn' pc' ls (.ref a :: st)) : Wk E h kc kn pc ls (.int N :: st) := by
  obtain ⟨hd, rfl⟩ := hd
  refine K.move (fun p e s m args below meth c G T locs X eT N' => ?_)
  obtain ⟨g1, g2, g3, g4, g5, hZ, hown, g8, g9⟩ := G
  have hn : n0 ≤ h.size := by rw [← eT]; exact Nat.le_trans g9 X.same.2.1
  subst hk hk2
  obtain ⟨T', h', cA, X', e', E', A', -, O', q'⟩ := RoadKit.newRA X g1 hZ hown hC w1 w2 eT (g := mkF m pc ls (.int N :: st)) rfl (hb g2 hd) rfl hN hcap h8 hc hl rfl
  exact ⟨T', _, _, _, _, _, _, _, X', e', N', E'.1, k h' h.size rfl hn E' (Ia.new A' hN), fun t q => q' t q⟩
theorem Kx.arraylength (K : Kx E y bytes ml rt l Z R n0 Q) {ty : FieldType} {N : Int32} {f : Int32 → Value} (hd : Dc bytes pc .arraylength 1 pc') (A : Ia Z h a ty N f) (k : Wk E h kc kn pc' ls (.int N :: st)) : Wk E h kc kn pc ls (.ref a :: st) := by
  obtain ⟨hd, rfl⟩ := hd
  obtain ⟨cl, A, S, M, G⟩ := A
  refine K.lift (fun p e s m args below meth c F T locs X eT t q => ?_) k
  exact X.arraylength F.1 (by rw [eT]; exact A.1) (State.isArrayOf_alike F.2.2.2.2.2.1.alike A.2.1) (g := mkF m pc ls (.ref a :: st)) rfl rfl (hb F.2.1 hd) t (by rw [len_of S M]; exact q)
theorem Kx.iaload (K : Kx E y bytes ml rt l Z R n0 Q) {N j : Int32} {f : Int32 → Value} {v : Value} (hd : Dc bytes pc .iaload 1 pc') (A : Ia Z h a .int N f) (h1 : ¬ j < 0) (h2 : j < N) (hv : f j = v) (k : Wk E h kc kn pc' ls (v :: st)) : Wk E h kc kn pc ls (.int j :: .ref a :: st) := by
  obtain ⟨hd, rfl⟩ := hd
  obtain ⟨cl, A, S, M, G⟩ := A
  refine K.lift (fun p e s m args below meth c F T locs X eT t q => ?_) k
  exact X.iaload F.1 (by rw [eT]; exact A.1) (State.isArrayOf_alike F.2.2.2.2.2.1.alike A.2.1) A.2.2 (inb_of S ⟨h1, h2⟩) (hv ▸ G j h1 h2) (g := mkF m pc ls (.int j :: .ref a :: st)) rfl rfl (hb F.2.1 hd) t q
theorem Kx.baload (K : Kx E y bytes ml rt l Z R n0 Q) {N j : Int32} {f : Int32 → Value} {v : Value} (hd : Dc bytes pc .baload 1 pc') (A : Ia Z h a .byte N f) (h1 : ¬ j < 0) (h2 : j < N) (hv : f j = v) (k : Wk E h kc kn pc' ls (v :: st)) : Wk E h kc kn pc ls (.int j :: .ref a :: st) := by
  obtain ⟨hd, rfl⟩ := hd
  obtain ⟨cl, A, S, M, G⟩ := A
  refine K.lift (fun p e s m args below meth c F T locs X eT t q => ?_) k
  exact X.baloadBytes F.1 (by rw [eT]; exact A.1) (State.isArrayOf_alike F.2.2.2.2.2.1.alike A.2.1) A.2.2 (inb_of S ⟨h1, h2⟩) (hv ▸ G j h1 h2) (g := mkF m pc ls (.int j :: .ref a :: st)) rfl rfl (hb F.2.1 hd) t q
theorem Kx.caload (K : Kx E y bytes ml rt l Z R n0 Q) {N j : Int32} {f : Int32 → Value} {v : Value} (hd : Dc bytes pc .caload 1 pc') (A : Ia Z h a .char N f) (h1 : ¬ j < 0) (h2 : j < N) (hv : f j = v) (k : Wk E h kc kn pc' ls (v :: st)) : Wk E h kc kn pc ls (.int j :: .ref a :: st) := by
  obtain ⟨hd, rfl⟩ := hd
  obtain ⟨cl, A, S, M, G⟩ := A
  refine K.lift (fun p e s m args below meth c F T locs X eT t q => ?_) k
  exact X.caload F.1 (by rw [eT]; exact A.1) (State.isArrayOf_alike F.2.2.2.2.2.1.alike A.2.1) A.2.2 (inb_of S ⟨h1, h2⟩) (hv ▸ G j h1 h2) (g := mkF m pc ls (.int j :: .ref a :: st)) rfl rfl (hb F.2.1 hd) t q
theorem Kx.aaload (K : Kx E y bytes ml rt l Z R n0 Q) {N j : Int32} {f : Int32 → Value} {ty : FieldType} {v : Value} (hd : Dc bytes pc .aaload 1 pc') (A : Ia Z h a ty N f) (hty : ty.isReference = true) (h1 : ¬ j < 0) (h2 : j < N) (hv : f j = v) (k : Wk E h kc kn pc' ls (v :: st)) : Wk E h kc kn pc ls (.int j :: .ref a :: st) := by
  obtain ⟨hd, rfl⟩ := hd
  obtain ⟨cl, A, S, M, G⟩ := A
  refine K.lift (fun p e s m args below meth c F T locs X eT t q => ?_) k
  exact X.aaload F.1 (by rw [eT]; exact A.1) (State.isArrayOf_alike F.2.2.2.2.2.1.alike A.2.1) hty A.2.2 (inb_of S ⟨h1, h2⟩) (hv ▸ G j h1 h2) (g := mkF m pc ls (.int j :: .ref a :: st)) rfl rfl (hb F.2.1 hd) t q
theorem Kx.iastore (K : Kx E y bytes ml rt l Z R n0 Q) {N j x : Int32} {f : Int32 → Value} (hd : Dc bytes pc .iastore 1 pc') (A : Ia Z h a .int N f) (h1 : ¬ j < 0) (h2 : j < N) (ge : n0 ≤ a)
    (k : ∀ h', Wr h h' a j.toNatClampNeg (.int x) → Ia Z h' a .int N (fun k => if k = j then .int x else f k) → Wk E h' kc kn pc' ls st) : Wk E h kc kn pc ls (.int x :: .int j :: .ref a :: st) := by
  obtain ⟨hd, rfl⟩ := hd
  refine K.move (fun p e s m args below meth c G T locs X eT N' => ?_)
  obtain ⟨g1, g2, g3, g4, g5, hZ, hown, g8, g9⟩ := G
  have hn : n0 ≤ h.size := by rw [← eT]; exact Nat.le_trans g9 X.same.2.1
  obtain ⟨cl, Ar, S, M, G⟩ := id A
  obtain ⟨T', h', X', e', W, q'⟩ := RoadKit.stI X g1 hZ eT Ar (inb_of S ⟨h1, h2⟩) (g := mkF m pc ls (.int x :: .int j :: .ref a :: st)) rfl rfl (hb g2 hd)
  exact ⟨T', _, _, _, _, _, _, _, X', e', (Fr.snoc X' N' ge), (Nat.le_of_eq W.size.symm), k h' W (A.set W h1), fun t q => q' t q⟩
theorem Kx.bastore (K : Kx E y bytes ml rt l Z R n0 Q) {N j x : Int32} {f : Int32 → Value} (hd : Dc bytes pc .bastore 1 pc') (A : Ia Z h a .byte N f) (h1 : ¬ j < 0) (h2 : j < N) (ge : n0 ≤ a)
    (k : ∀ h', Wr h h' a j.toNatClampNeg (.int x.toInt8.toInt32) → Ia Z h' a .byte N (fun k => if k = j then .int x.toInt8.toInt32 else f k) → Wk E h' kc kn pc' ls st) : Wk E h kc kn pc ls (.int x :: .int j :: .ref a :: st) := by
  obtain ⟨hd, rfl⟩ := hd
  refine K.move (fun p e s m args below meth c G T locs X eT N' => ?_)
  obtain ⟨g1, g2, g3, g4, g5, hZ, hown, g8, g9⟩ := G
  have hn : n0 ≤ h.size := by rw [← eT]; exact Nat.le_trans g9 X.same.2.1
  obtain ⟨cl, Ar, S, M, G⟩ := id A
  obtain ⟨T', h', X', e', W, q'⟩ := RoadKit.stB X g1 hZ eT Ar (inb_of S ⟨h1, h2⟩) (g := mkF m pc ls (.int x :: .int j :: .ref a :: st)) rfl rfl (hb g2 hd)
  exact ⟨T', _, _, _, _, _, _, _, X', e', (Fr.snoc X' N' ge), (Nat.le_of_eq W.size.symm), k h' W (A.set W h1), fun t q => q' t q⟩
theorem Kx.castore (K : Kx E y bytes ml rt l Z R n0 Q) {N j x : Int32} {f : Int32 → Value} (hd : Dc bytes pc .castore 1 pc') (A : Ia Z h a .char N f) (h1 : ¬ j < 0) (h2 : j < N) (ge : n0 ≤ a)
    (k : ∀ h', Wr h h' a j.toNatClampNeg (.int x.toUInt32.toUInt16.toUInt32.toInt32) → Ia Z h' a .char N (fun k => if k = j then .int x.toUInt32.toUInt16.toUInt32.toInt32 else f k) → Wk E h' kc kn pc' ls st) : Wk E h kc kn pc ls (.int x :: .int j :: .ref a :: st) := by
  obtain ⟨hd, rfl⟩ := hd
  refine K.move (fun p e s m args below meth c G T locs X eT N' => ?_)
  obtain ⟨g1, g2, g3, g4, g5, hZ, hown, g8, g9⟩ := G
  have hn : n0 ≤ h.size := by rw [← eT]; exact Nat.le_trans g9 X.same.2.1
  obtain ⟨cl, Ar, S, M, G⟩ := id A
  obtain ⟨T', h', X', e', W, q'⟩ := RoadKit.stC X g1 hZ eT Ar (inb_of S ⟨h1, h2⟩) (g := mkF m pc ls (.int x :: .int j :: .ref a :: st)) rfl rfl (hb g2 hd)
  exact ⟨T', _, _, _, _, _, _, _, X', e', (Fr.snoc X' N' ge), (Nat.le_of_eq W.size.symm), k h' W (A.set W h1), fun t q => q' t q⟩
theorem Kx.getS (K : Kx E y bytes ml rt l Z R n0 Q) {i : Nat} {O n d : String} {v : Value} (hd : Dc bytes pc (.getstatic i) 3 pc') (w : (Jvm.Cond.fieldLink y.cls i O n d).before a0 Z = true) (F : Sta Z h O n d v) (k : Wk E h kc kn pc' ls (v :: st)) : Wk E h kc kn pc ls st := by
  obtain ⟨hd, rfl⟩ := hd
  refine K.move (fun p e s m args below meth c G T locs X eT N => ?_)
  obtain ⟨g1, g2, g3, g4, g5, hZ, hown, g8, g9⟩ := G
  have hn : n0 ≤ h.size := by rw [← eT]; exact Nat.le_trans g9 X.same.2.1
  obtain ⟨T', X', e', q'⟩ := RoadKit.getS (host := "") X g1 hZ hown w Via.refl eT F (g := mkF m pc ls st) rfl (hb g2 hd)
  exact ⟨T', _, _, _, _, _, _, _, X', e', N, (Nat.le_refl _), k, fun t q => q' t q⟩
theorem Kx.castY (K : Kx E y bytes ml rt l Z R n0 Q) {i : Nat} {C : String} (hd : Dc bytes pc (.checkcast i) 3 pc') (w : (Jvm.Cond.classLink y.cls i C).before a0 Z = true) (F : Ins Z h a C true) (k : Wk E h kc kn pc' ls (.ref a :: st)) : Wk E h kc kn pc ls (.ref a :: st) := by
  obtain ⟨hd, rfl⟩ := hd
  refine K.move (fun p e s m args below meth c G T locs X eT N => ?_)
  obtain ⟨g1, g2, g3, g4, g5, hZ, hown, g8, g9⟩ := G
  obtain ⟨T', X', e', q'⟩ := RoadKit.castY X g1 hZ hown w eT F (g := mkF m pc ls (.ref a :: st)) rfl rfl (hb g2 hd)
  exact ⟨T', _, _, _, _, _, _, _, X', e', N, (Nat.le_refl _), k, fun t q => q' t q⟩
theorem Kx.instY (K : Kx E y bytes ml rt l Z R n0 Q) {i : Nat} {C : String} (hd : Dc bytes pc (.instanceof i) 3 pc') (w : (Jvm.Cond.classLink y.cls i C).before a0 Z = true) (F : Ins Z h a C true) (k : Wk E h kc kn pc' ls (.int 1 :: st)) : Wk E h kc kn pc ls (.ref a :: st) := by
  obtain ⟨hd, rfl⟩ := hd
  refine K.move (fun p e s m args below meth c G T locs X eT N => ?_)
  obtain ⟨g1, g2, g3, g4, g5, hZ, hown, g8, g9⟩ := G
  obtain ⟨T', X', e', q'⟩ := RoadKit.instY X g1 hZ hown w eT F (g := mkF m pc ls (.ref a :: st)) rfl rfl (hb g2 hd)
  exact ⟨T', _, _, _, _, _, _, _, X', e', N, (Nat.le_refl _), k, fun t q => q' t q⟩
theorem Kx.instNo (K : Kx E y bytes ml rt l Z R n0 Q) {i : Nat} {C D : String} (hd : Dc bytes pc (.instanceof i) 3 pc') (w : (Jvm.Cond.classLink y.cls i C).before a0 Z = true) (X0 : Exa Z h a D) (F : ∃ c t, Z.vm.findClass D = some c ∧ Z.vm.findClass C = some t ∧ Z.vm.assignable c t = false) (k : Wk E h kc kn pc' ls (.int 0 :: st)) : Wk E h kc kn pc ls (.ref a :: st) := by
  obtain ⟨hd, rfl⟩ := hd
  refine K.move (fun p e s m args below meth c G T locs X eT N => ?_)
  obtain ⟨g1, g2, g3, g4, g5, hZ, hown, g8, g9⟩ := G
  obtain ⟨T', X', e', q'⟩ := RoadKit.instNo X g1 hZ hown w eT X0 F (g := mkF m pc ls (.ref a :: st)) rfl rfl (hb g2 hd)
  exact ⟨T', _, _, _, _, _, _, _, X', e', N, (Nat.le_refl _), k, fun t q => q' t q⟩
theorem Kx.instNull (K : Kx E y bytes ml rt l Z R n0 Q) {i : Nat} (hd : Dc bytes pc (.instanceof i) 3 pc') (k : Wk E h kc kn pc' ls (.int 0 :: st)) : Wk E h kc kn pc ls (.null :: st) := by
  obtain ⟨hd, rfl⟩ := hd
  exact K.lift (fun p e s m args below meth c F T locs X eT t q => X.instanceofNull F.1 (g := mkF m pc ls (.null :: st)) rfl rfl (hb F.2.1 hd) t q) k
def Pl (h : Heap) (x : Addr) : Prop := ∃ c : Cell, h[x]? = some c ∧ c.vm.isStatics = false
theorem plE {C : String} (F : Exa Z h a C) : Pl h a := by obtain ⟨c, _, h1, -, -, h4, -⟩ := F; exact ⟨c, h1, h4⟩
theorem plA {ty : FieldType} {N : Int32} {f : Int32 → Value} (F : Ia Z h a ty N f) : Pl h a := by obtain ⟨c, A, -⟩ := F; exact ⟨c, A.1, A.plain⟩
theorem staK {C n d : String} {v : Value} {ws : List Addr} (F : Sta Z h C n d v) (K : Keep h h' ws) (q : ∀ x ∈ ws, Pl h x) : Sta Z h' C n d v := by
  obtain ⟨cf, i, k, f, sa, cell, h1, h2, h3, h4, h5, h6, h7⟩ := F
  refine ⟨cf, i, k, f, sa, cell, h1, h2, h3, h4, K.2.1 sa cell h5 (fun u => ?_), h6, h7⟩
  obtain ⟨c, e1, e2⟩ := q sa u
  cases h5.symm.trans e1
  rw [e2] at h6; cases h6
theorem Kx.ac_eq (K : Kx E y bytes ml rt l Z R n0 Q) {o : Int} (hd : Db bytes pc (.if_acmp .eq o) o pc1 pc2) (k1 : a = b → Wk E h kc kn pc2 ls st) (k2 : ¬ a = b → Wk E h kc kn pc1 ls st) : Wk E h kc kn pc ls (.ref b :: .ref a :: st) := by
  obtain ⟨hd, rfl, h0, h1⟩ := hd
  by_cases u : a = b
  · exact K.lift (fun p e s m args below meth c F T locs X eT t q => RoadKit.acmp (g := mkF m pc ls (.ref b :: .ref a :: st)) X F.1 rfl (x := .ref a) (y := .ref b) rfl rfl (same := true) rfl (hb F.2.1 hd) rfl (by simp [u]) h0 (by simp [acV, h1]) q) (k1 u)
  · exact K.lift (fun p e s m args below meth c F T locs X eT t q => RoadKit.acmp (g := mkF m pc ls (.ref b :: .ref a :: st)) X F.1 rfl (x := .ref a) (y := .ref b) rfl rfl (same := false) rfl (hb F.2.1 hd) rfl (by simp [u]) h0 (by simp [acV]) q) (k2 u)
theorem Kx.ac_ne (K : Kx E y bytes ml rt l Z R n0 Q) {o : Int} (hd : Db bytes pc (.if_acmp .ne o) o pc1 pc2) (k1 : a = b → Wk E h kc kn pc1 ls st) (k2 : ¬ a = b → Wk E h kc kn pc2 ls st) : Wk E h kc kn pc ls (.ref b :: .ref a :: st) := by
  obtain ⟨hd, rfl, h0, h1⟩ := hd
  by_cases u : a = b
  · exact K.lift (fun p e s m args below meth c F T locs X eT t q => RoadKit.acmp (g := mkF m pc ls (.ref b :: .ref a :: st)) X F.1 rfl (x := .ref a) (y := .ref b) rfl rfl (same := true) rfl (hb F.2.1 hd) rfl (by simp [u]) h0 (by simp [acV]) q) (k1 u)
  · exact K.lift (fun p e s m args below meth c F T locs X eT t q => RoadKit.acmp (g := mkF m pc ls (.ref b :: .ref a :: st)) X F.1 rfl (x := .ref a) (y := .ref b) rfl rfl (same := false) rfl (hb F.2.1 hd) rfl (by simp [u]) h0 (by simp [acV, h1]) q) (k2 u)
theorem Kx.initO (K : Kx E y bytes ml rt l Z R n0 Q) {i : Nat} (W : Nat) (hd : Dc bytes pc (.invokespecial i) 3 pc') (w1 : (Jvm.Cond.methodLink y.cls i Lib.objectInit).before a0 Z = true) (w2 : (Jvm.Cond.instanceMethod Lib.objectInit).before a0 Z = true) (w3 : (Jvm.Cond.code Lib.objectInit ⟨#[0xb1]⟩ 1 none).before a0 Z = true)
    (hsz : ls.size = ml) (hf : 1 ≤ R.frames) (hW : (st.map fun v => v.category).sum ≤ W) (hlo : W + 12 ≤ R.locals) (k : Wk E h kc kn pc' ls st) : Wk E h kc kn pc ls (.ref a :: st) := by
  obtain ⟨hd, rfl⟩ := hd
  refine K.move (fun p e s m args below meth c G T locs X eT N => ?_)
  obtain ⟨g1, g2, g3, g4, g5, hZ, hown, g8, g9⟩ := G
  have hn : n0 ≤ h.size := by rw [← eT]; exact Nat.le_trans g9 X.same.2.1
  obtain ⟨T', X', e', q'⟩ := RoadKit.initO X g1 hZ hown w1 w2 w3 eT (g := mkF m pc ls (.ref a :: st)) rfl (by rw [g3]; exact hsz) rfl (hb g2 hd) hf (W := W) (by show 2 * 0 + _ ≤ _; omega) hlo
  exact ⟨T', _, _, _, _, _, _, _, X', e', N, (Nat.le_refl _), k, fun t q => q' t q⟩
theorem Kx.callS (K : Kx E y bytes ml rt l Z R n0 Q) {i : Nat} {y' : MethodName} {bytes' : ByteArray} {ml' : Nat} {rt' : Option FieldType} {rm : Room} {Q' : Option Value → Heap → Prop} (as rest : List Value) (W kc' kn' : Nat) (hd : Dc bytes pc (.invokestatic i) 3 pc')
    (wl : (Jvm.Cond.methodLink y.cls i y').before a0 Z = true) (ws : (Jvm.Cond.static y').before a0 Z = true) (wz : (Jvm.Cond.initialized y'.cls).before a0 Z = true) (wc : (Jvm.Cond.code y' bytes' ml' rt').before a0 Z = true) (hy : y'.cls ≠ "java/lang/invoke/MethodHandle" ∧ y'.cls ≠ "java/lang/invoke/VarHandle")
    (con : Con l Z y' bytes' ml' rt' rm as.toArray h n0 Q') (hst : st = as.reverse ++ rest) (hlen : ∀ sig, parseMethodDescriptor y'.desc = some sig → as.length = sig.parameters.length) (hsz : ls.size = ml) (hW : (rest.map fun v => v.category).sum ≤ W)
    (hf : rm.frames + 1 ≤ R.frames) (hlo : W + (ml' + 11) + rm.locals ≤ R.locals) (hk : kc + rm.cells = kc') (hk2 : kn + rm.slots = kn') (hc : kc' ≤ R.cells) (hl : kn' ≤ R.slots)
    (k : ∀ v h', Q' v h' → Wk E h' kc' kn' pc' ls (v.toList ++ rest)) : Wk E h kc kn pc ls st := by
  obtain ⟨hd, rfl⟩ := hd
  obtain ⟨p, e, s, m, args, below, meth, c, rfl, g1, g2, g3, g4, g5, hZ, hown, g8, g9⟩ := K
  intro T locs X eT N
  have hn : n0 ≤ h.size := by rw [← eT]; exact Nat.le_trans g9 X.same.2.1
  subst hst hk hk2
  obtain ⟨v, vm₁, ⟨T', L', k', n'⟩, -, X', ⟨L, ⟨hQ, hFr⟩, e1, e2, e3⟩, q'⟩ := Jvm.LawKit.callS X g1 (y := y') hown (mvT hZ wl) (mvT hZ ws) (mvT hZ wz) (mvT hZ wc) hy (backOf (W := W) (Q := fun v h L => Q' v h ∧ Fr n0 L) (con hn []) hZ wc wz hf hlo) (g := mkF m pc ls (as.reverse ++ rest)) rfl (by rw [g3]; exact hsz) (argsL := as) (rest := rest) hlen rfl (by show 2 * 0 + _ ≤ _; omega) (hb g2 hd) (fun _ _ => ⟨rfl, eT, hc, hl⟩)
  dsimp only [Pt.U, Pt.locs, Pt.cells, Pt.slots] at X' e1 e2 e3 q' hQ
  subst e1 e2 e3
  obtain ⟨s₂, o, q, r⟩ := k v T'.heap hQ T' _ X' rfl (Fr.app N hFr)
  exact ⟨s₂, o, q' _ q, r⟩
theorem Kx.callI (K : Kx E y bytes ml rt l Z R n0 Q) {i : Nat} {y' : MethodName} {bytes' : ByteArray} {ml' : Nat} {rt' : Option FieldType} {rm : Room} {Q' : Option Value → Heap → Prop} (as rest : List Value) (W kc' kn' : Nat) (hd : Dc bytes pc (.invokespecial i) 3 pc') (hy1 : y'.name = "<init>") (hrt : rt' = none)
    (wl : (Jvm.Cond.methodLink y.cls i y').before a0 Z = true) (wn : (Jvm.Cond.instanceMethod y').before a0 Z = true) (wz : (Jvm.Cond.initialized y'.cls).before a0 Z = true) (wc : (Jvm.Cond.code y' bytes' ml' rt').before a0 Z = true) (hy : y'.cls ≠ "java/lang/invoke/MethodHandle" ∧ y'.cls ≠ "java/lang/invoke/VarHandle")
    (con : Con l Z y' bytes' ml' rt' rm (.ref a :: as).toArray h n0 Q') (hst : st = as.reverse ++ .ref a :: rest) (hlen : ∀ sig, parseMethodDescriptor y'.desc = some sig → as.length = sig.parameters.length) (hsz : ls.size = ml) (hW : (rest.map fun v => v.category).sum ≤ W)
    (hf : rm.frames + 1 ≤ R.frames) (hlo : W + (ml' + 11) + rm.locals ≤ R.locals) (hk : kc + rm.cells = kc') (hk2 : kn + rm.slots = kn') (hc : kc' ≤ R.cells) (hl : kn' ≤ R.slots)
    (k : ∀ v h', Q' v h' → Wk E h' kc' kn' pc' ls (v.toList ++ rest)) : Wk E h kc kn pc ls st := by
  obtain ⟨hd, rfl⟩ := hd
  obtain ⟨p, e, s, m, args, below, meth, c, rfl, g1, g2, g3, g4, g5, hZ, hown, g8, g9⟩ := K
  intro T locs X eT N
  have hn : n0 ≤ h.size := by rw [← eT]; exact Nat.le_trans g9 X.same.2.1
  subst hst hk hk2
  subst hrt
  obtain ⟨v, vm₁, ⟨T', L', k', n'⟩, -, X', ⟨L, ⟨hQ, hFr⟩, e1, e2, e3⟩, q'⟩ := X.specialBack g1 (y := y') hy1 hown (mvT hZ wl) (mvT hZ wn) (mvT hZ wc) hy (backOf (W := W) (Q := fun v h L => Q' v h ∧ Fr n0 L) (con hn []) hZ wc wz hf hlo) (g := mkF m pc ls (as.reverse ++ .ref a :: rest)) rfl (by rw [g3]; exact hsz) (Steps.refl _) (a := a) (argsL := as) (rest := rest) hlen rfl (by show 2 * 0 + _ ≤ _; omega) (hb g2 hd) (fun _ _ => ⟨rfl, eT, hc, hl⟩)
  dsimp only [Pt.U, Pt.locs, Pt.cells, Pt.slots] at X' e1 e2 e3 q' hQ
  subst e1 e2 e3
  obtain ⟨s₂, o, q, r⟩ := k v T'.heap hQ T' _ X' rfl (Fr.app N hFr)
  exact ⟨s₂, o, q'.trans q, r⟩
theorem Kx.callV (K : Kx E y bytes ml rt l Z R n0 Q) {i : Nat} {y' : MethodName} {bytes' : ByteArray} {ml' : Nat} {rt' : Option FieldType} {rm : Room} {Q' : Option Value → Heap → Prop} (as rest : List Value) (W kc' kn' : Nat) {C : String} (hd : Dc bytes pc (.invokevirtual i) 3 pc')
    (wl : (Jvm.Cond.methodLink y.cls i y').before a0 Z = true) (wd : (Jvm.Cond.declares y').before a0 Z = true) (wse : (Jvm.Cond.selects C y' y').before a0 Z = true) (wn : (Jvm.Cond.instanceMethod y').before a0 Z = true) (wz : (Jvm.Cond.initialized y'.cls).before a0 Z = true) (wc : (Jvm.Cond.code y' bytes' ml' rt').before a0 Z = true) (hy : y'.cls ≠ "java/lang/invoke/MethodHandle" ∧ y'.cls ≠ "java/lang/invoke/VarHandle")
    (con : Con l Z y' bytes' ml' rt' rm (.ref a :: as).toArray h n0 Q') (X0 : Exa Z h a C) (hst : st = as.reverse ++ .ref a :: rest) (hlen : ∀ sig, parseMethodDescriptor y'.desc = some sig → as.length = sig.parameters.length) (hsz : ls.size = ml) (hW : (rest.map fun v => v.category).sum ≤ W)
    (hf : rm.frames + 1 ≤ R.frames) (hlo : W + (ml' + 11) + rm.locals ≤ R.locals) (hk : kc + rm.cells = kc') (hk2 : kn + rm.slots = kn') (hc : kc' ≤ R.cells) (hl : kn' ≤ R.slots)
    (k : ∀ v h', Q' v h' → Wk E h' kc' kn' pc' ls (v.toList ++ rest)) : Wk E h kc kn pc ls st := by
  obtain ⟨hd, rfl⟩ := hd
  obtain ⟨p, e, s, m, args, below, meth, c, rfl, g1, g2, g3, g4, g5, hZ, hown, g8, g9⟩ := K
  intro T locs X eT N
  have hn : n0 ≤ h.size := by rw [← eT]; exact Nat.le_trans g9 X.same.2.1
  subst hst hk hk2
  obtain ⟨cq, kq, qa, qb, qc⟩ := isOf hZ eT X0
  obtain ⟨v, vm₁, ⟨T', L', k', n'⟩, -, X', ⟨L, ⟨hQ, hFr⟩, e1, e2, e3⟩, q'⟩ := X.virtualBack g1 (y := y') (z := y') hown (mvT hZ wl) (mvT hZ wd) (notFace_of_selects (args := #[]) (mvT hZ wse)) (mvT hZ wse) (mvT hZ wn) hy (backOf (W := W) (Q := fun v h L => Q' v h ∧ Fr n0 L) (con hn []) hZ wc wz hf hlo) qa qc (g := mkF m pc ls (as.reverse ++ .ref a :: rest)) rfl (by rw [g3]; exact hsz) (Steps.refl _) (argsL := as) (rest := rest) hlen rfl (by show 2 * 0 + _ ≤ _; omega) (hb g2 hd) (fun _ _ => ⟨rfl, eT, hc, hl⟩)
  dsimp only [Pt.U, Pt.locs, Pt.cells, Pt.slots] at X' e1 e2 e3 q' hQ
  subst e1 e2 e3
  obtain ⟨s₂, o, q, r⟩ := k v T'.heap hQ T' _ X' rfl (Fr.app N hFr)
  exact ⟨s₂, o, q'.trans q, r⟩
theorem Kx.callP (K : Kx E y bytes ml rt l Z R n0 Q) {i : Nat} {y' : MethodName} {bytes' : ByteArray} {ml' : Nat} {rt' : Option FieldType} {rm : Room} {Q' : Option Value → Heap → Prop} (as rest : List Value) (W kc' kn' : Nat) {C : String} (hd : Dc bytes pc (.invokevirtual i) 3 pc')
    (wl : (Jvm.Cond.methodLink y.cls i y').before a0 Z = true) (wp : (Jvm.Cond.privateMethod y').before a0 Z = true) (wse : (Jvm.Cond.selects y'.cls y' y').before a0 Z = true) (wn : (Jvm.Cond.instanceMethod y').before a0 Z = true) (wz : (Jvm.Cond.initialized y'.cls).before a0 Z = true) (wc : (Jvm.Cond.code y' bytes' ml' rt').before a0 Z = true) (hy : y'.cls ≠ "java/lang/invoke/MethodHandle" ∧ y'.cls ≠ "java/lang/invoke/VarHandle")
    (con : Con l Z y' bytes' ml' rt' rm (.ref a :: as).toArray h n0 Q') (X0 : Exa Z h a C) (hst : st = as.reverse ++ .ref a :: rest) (hlen : ∀ sig, parseMethodDescriptor y'.desc = some sig → as.length = sig.parameters.length) (hsz : ls.size = ml) (hW : (rest.map fun v => v.category).sum ≤ W)
    (hf : rm.frames + 1 ≤ R.frames) (hlo : W + (ml' + 11) + rm.locals ≤ R.locals) (hk : kc + rm.cells = kc') (hk2 : kn + rm.slots = kn') (hc : kc' ≤ R.cells) (hl : kn' ≤ R.slots)
    (k : ∀ v h', Q' v h' → Wk E h' kc' kn' pc' ls (v.toList ++ rest)) : Wk E h kc kn pc ls st := by
  obtain ⟨hd, rfl⟩ := hd
  obtain ⟨p, e, s, m, args, below, meth, c, rfl, g1, g2, g3, g4, g5, hZ, hown, g8, g9⟩ := K
  intro T locs X eT N
  have hn : n0 ≤ h.size := by rw [← eT]; exact Nat.le_trans g9 X.same.2.1
  subst hst hk hk2
  obtain ⟨cq, qa, qb⟩ := X0.cell
  obtain ⟨v, vm₁, ⟨T', L', k', n'⟩, -, X', ⟨L, ⟨hQ, hFr⟩, e1, e2, e3⟩, q'⟩ := X.privateBack g1 (y := y') hown (mvT hZ wl) (mvT hZ wn) (mvT hZ wse) (Cond.privateMethod_at (mvP hZ wp (args := #[]))) (mvT hZ wc) hy (backOf (W := W) (Q := fun v h L => Q' v h ∧ Fr n0 L) (con hn []) hZ wc wz hf hlo) (g := mkF m pc ls (as.reverse ++ .ref a :: rest)) rfl (by rw [g3]; exact hsz) (Steps.refl _) (a := a) (by rw [eT]; exact qa) qb (argsL := as) (rest := rest) hlen rfl (by show 2 * 0 + _ ≤ _; omega) (hb g2 hd) (fun _ _ => ⟨rfl, eT, hc, hl⟩)
  dsimp only [Pt.U, Pt.locs, Pt.cells, Pt.slots] at X' e1 e2 e3 q' hQ
  subst e1 e2 e3
  obtain ⟨s₂, o, q, r⟩ := k v T'.heap hQ T' _ X' rfl (Fr.app N hFr)
  exact ⟨s₂, o, q'.trans q, r⟩
/-- how a call goes on: it hands back one value and leaves the heap; a value; nothing; a reference -/
theorem goP {val : Value} {rest : List Value} (k : Wk E h kc kn pc ls (val :: rest)) : ∀ v h', (v = some val ∧ h' = h) → Wk E h' kc kn pc ls (v.toList ++ rest) := fun v h' q => by obtain ⟨rfl, rfl⟩ := q; exact k
theorem goV {val : Value} {rest : List Value} {Qh : Heap → Prop} (k : ∀ h', Qh h' → Wk E h' kc kn pc ls (val :: rest)) : ∀ v h', (v = some val ∧ Qh h') → Wk E h' kc kn pc ls (v.toList ++ rest) := fun v h' q => by obtain ⟨rfl, q⟩ := q; exact k h' q
theorem goN {rest : List Value} (k : Wk E h kc kn pc ls rest) : ∀ v h', (v = (none : Option Value) ∧ h' = h) → Wk E h' kc kn pc ls (v.toList ++ rest) := fun v h' q => by obtain ⟨rfl, rfl⟩ := q; exact k
theorem goU {rest : List Value} {Qh : Heap → Prop} (k : ∀ h', Qh h' → Wk E h' kc kn pc ls rest) : ∀ v h', (v = (none : Option Value) ∧ Qh h') → Wk E h' kc kn pc ls (v.toList ++ rest) := fun v h' q => by obtain ⟨rfl, q⟩ := q; exact k h' q
theorem goR {rest : List Value} {Qr : Addr → Heap → Prop} (k : ∀ a h', Qr a h' → Wk E h' kc kn pc ls (.ref a :: rest)) : ∀ v h', (∃ a, v = some (.ref a) ∧ Qr a h') → Wk E h' kc kn pc ls (v.toList ++ rest) := fun v h' q => by obtain ⟨a, rfl, q⟩ := q; exact k a h' q
theorem goI {rest : List Value} {Qr : Int32 → Heap → Prop} (k : ∀ a h', Qr a h' → Wk E h' kc kn pc ls (.int a :: rest)) : ∀ v h', (∃ a, v = some (.int a) ∧ Qr a h') → Wk E h' kc kn pc ls (v.toList ++ rest) := fun v h' q => by obtain ⟨a, rfl, q⟩ := q; exact k a h' q
theorem Kx.ret (K : Kx E y bytes ml none l Z R n0 Q) (hd : Dc bytes pc .return_ 1 pc') (hc : kc ≤ R.cells) (hl : kn ≤ R.slots) (hQ : Q none h) : Wk E h kc kn pc ls [] := by
  obtain ⟨p, e, s, m, args, below, meth, c, rfl, g1, g2, g3, g4, g5, hZ, hown, g8, g9⟩ := K
  intro T locs X eT N
  obtain ⟨fs, hr, hrun, hended, hW, hsame⟩ := X.leave (v := none) (fun _ => rfl) g5
  exact ⟨_, _, X.returnOut g1 g4 (hb g2 hd.1) hr, hrun, hended, _, _, rfl, ⟨(by show Q none T.heap; rw [eT]; exact hQ), N⟩, ⟨_, rfl⟩, hW, hsame.mono hc hl⟩
theorem Kx.retW {t : FieldType} {w : Value} {i : Instr} (K : Kx E y bytes ml (some t) l Z R n0 Q) (hd : Dc bytes pc i 1 pc') (hna : narrow t w = w) (hi : (i = .ireturn ∧ (t = .int ∨ t = .boolean ∨ t = .byte ∨ t = .char ∨ t = .short) ∧ ∃ z, w = .int z) ∨ (i = .lreturn ∧ t = .long ∧ ∃ z, w = .long z) ∨ (i = .dreturn ∧ t = .double ∧ ∃ z, w = .double z) ∨ (i = .freturn ∧ t = .float ∧ ∃ z, w = .float z) ∨ (i = .areturn ∧ t.isReference = true ∧ w.isRef = true)) (hc : kc ≤ R.cells) (hl : kn ≤ R.slots) (hQ : Q (some w) h) : Wk E h kc kn pc ls (w :: st) := by
  obtain ⟨p, e, s, m, args, below, meth, c, rfl, g1, g2, g3, g4, g5, hZ, hown, g8, g9⟩ := K
  intro T locs X eT N
  obtain ⟨fs, hr, hrun, hended, hW, hsame⟩ := X.leave (v := some w) (fun h => by rw [g4] at h; cases h) g5
  exact ⟨_, _, retOut X g1 g4 hna hi (hb g2 hd.1) hr, hrun, hended, _, _, rfl, ⟨(by show Q (some w) T.heap; rw [eT]; exact hQ), N⟩, ⟨_, rfl⟩, hW, hsame.mono hc hl⟩
theorem Kx.ireturn {t : FieldType} {z : Int32} (K : Kx E y bytes ml (some t) l Z R n0 Q) (hd : Dc bytes pc .ireturn 1 pc') (ht : t = .int ∨ t = .boolean ∨ t = .byte ∨ t = .char ∨ t = .short) (hna : narrow t (.int z) = .int z) (hc : kc ≤ R.cells) (hl : kn ≤ R.slots) (hQ : Q (some (.int z)) h) : Wk E h kc kn pc ls (.int z :: st) :=
  K.retW hd hna (Or.inl ⟨rfl, ht, z, rfl⟩) hc hl hQ
theorem Kx.lreturn {z : Int64} (K : Kx E y bytes ml (some .long) l Z R n0 Q) (hd : Dc bytes pc .lreturn 1 pc') (hc : kc ≤ R.cells) (hl : kn ≤ R.slots) (hQ : Q (some (.long z)) h) : Wk E h kc kn pc ls (.long z :: st) :=
  K.retW hd rfl (Or.inr (Or.inl ⟨rfl, rfl, z, rfl⟩)) hc hl hQ
theorem Kx.areturn {t : FieldType} {w : Value} (K : Kx E y bytes ml (some t) l Z R n0 Q) (hd : Dc bytes pc .areturn 1 pc') (ht : t.isReference = true) (hw : w.isRef = true) (hna : narrow t w = w) (hc : kc ≤ R.cells) (hl : kn ≤ R.slots) (hQ : Q (some w) h) : Wk E h kc kn pc ls (w :: st) :=
  K.retW hd hna (Or.inr (Or.inr (Or.inr (Or.inr ⟨rfl, ht, hw⟩)))) hc hl hQ
theorem narB {P : Prop} [Decidable P] : narrow .boolean (.int (if P then 1 else 0)) = .int (if P then 1 else 0) := by split <;> rfl
theorem narB' {P : Prop} [Decidable P] : narrow .boolean (.int (if P then 0 else 1)) = .int (if P then 0 else 1) := by split <;> rfl
end Own
end Jvm.Pilot.@@N@@
namespace Jvm.Pilot.@@N@@
open Jvm Jvm.ClassFile Sem Op Lib Jvm.Free Jvm.Stand Jvm.LawKit Jvm.RoadKit Bundle Jvm.Pilot.@@N@@.Jvm.D
theorem dR_0 : Dc jdk_30_method_1_code 0 (.aload_n 0) 1 1 := ⟨by decide +kernel, rfl⟩
theorem dR_1 : Dc jdk_30_method_1_code 1 (.invokespecial 1) 3 4 := ⟨by decide +kernel, rfl⟩
set_option maxRecDepth 65536 in
theorem wd11 {Z : State} {a0 : Array Value} (hw : ∀ d ∈ tables_1, d.before a0 Z = true) : (Jvm.Cond.methodLink "java/lang/Record" (1 : Nat) ({ cls := "java/lang/Object", name := "<init>", desc := "()V" } : Jvm.MethodName)).before a0 Z = true := hw _ (List.mem_of_getElem? (i := 11) rfl)
set_option maxRecDepth 65536 in
theorem wd12 {Z : State} {a0 : Array Value} (hw : ∀ d ∈ tables_1, d.before a0 Z = true) : (Jvm.Cond.instanceMethod ({ cls := "java/lang/Object", name := "<init>", desc := "()V" } : Jvm.MethodName)).before a0 Z = true := hw _ (List.mem_of_getElem? (i := 12) rfl)
set_option maxRecDepth 65536 in
theorem wd13 {Z : State} {a0 : Array Value} (hw : ∀ d ∈ tables_1, d.before a0 Z = true) : (Jvm.Cond.code ({ cls := "java/lang/Object", name := "<init>", desc := "()V" } : Jvm.MethodName) object_method_1_code (1 : Nat) (Option.none : Option Jvm.ClassFile.FieldType)).before a0 Z = true := hw _ (List.mem_of_getElem? (i := 13) rfl)
theorem dR_4 : Dc jdk_30_method_1_code 4 .return_ 1 5 := ⟨by decide +kernel, rfl⟩
theorem efR (m : MethodId) (x0 : Addr) : entryFrame m #[.ref x0] 1 = mkF m 0 #[.val (.ref x0)] [] := by first | (simp [entryFrame, mkF, argsToLocals, Value.category]; done) | rfl
theorem pnR : plainFor (⟨"java/lang/Record", "<init>", "()V"⟩ : MethodName) = true := plainFor_of_name (by first | (simp [plainName, overriddenIn]; done) | decide +kernel)
theorem dN_0 : Dc jdk_18_method_1_code 0 (.aload_n 0) 1 1 := ⟨by decide +kernel, rfl⟩
theorem dN_1 : Dc jdk_18_method_1_code 1 (.invokespecial 1) 3 4 := ⟨by decide +kernel, rfl⟩
set_option maxRecDepth 65536 in
theorem wd48 {Z : State} {a0 : Array Value} (hw : ∀ d ∈ tables_1, d.before a0 Z = true) : (Jvm.Cond.methodLink "java/lang/Number" (1 : Nat) ({ cls := "java/lang/Object", name := "<init>", desc := "()V" } : Jvm.MethodName)).before a0 Z = true := hw _ (List.mem_of_getElem? (i := 48) rfl)
theorem dN_4 : Dc jdk_18_method_1_code 4 .return_ 1 5 := ⟨by decide +kernel, rfl⟩
theorem efN (m : MethodId) (x0 : Addr) : entryFrame m #[.ref x0] 1 = mkF m 0 #[.val (.ref x0)] [] := by first | (simp [entryFrame, mkF, argsToLocals, Value.category]; done) | rfl
theorem pnN : plainFor (⟨"java/lang/Number", "<init>", "()V"⟩ : MethodName) = true := plainFor_of_name (by first | (simp [plainName, overriddenIn]; done) | decide +kernel)
theorem dI_0 : Dc prog_17_method_1_code 0 (.aload_n 0) 1 1 := ⟨by decide +kernel, rfl⟩
theorem dI_1 : Dc prog_17_method_1_code 1 (.invokespecial 1) 3 4 := ⟨by decide +kernel, rfl⟩
set_option maxRecDepth 65536 in
theorem wd9 {Z : State} {a0 : Array Value} (hw : ∀ d ∈ tables_1, d.before a0 Z = true) : (Jvm.Cond.initialized "java/lang/Record").before a0 Z = true := hw _ (List.mem_of_getElem? (i := 9) rfl)
theorem pd_1 : parseMethodDescriptor "()V" = some ⟨[], none⟩ := by decide +kernel
set_option maxRecDepth 65536 in
theorem wd6 {Z : State} {a0 : Array Value} (hw : ∀ d ∈ tables_1, d.before a0 Z = true) : (Jvm.Cond.methodLink "com/example/headmap/headmap/model/Extent" (1 : Nat) ({ cls := "java/lang/Record", name := "<init>", desc := "()V" } : Jvm.MethodName)).before a0 Z = true := hw _ (List.mem_of_getElem? (i := 6) rfl)
set_option maxRecDepth 65536 in
theorem wd7 {Z : State} {a0 : Array Value} (hw : ∀ d ∈ tables_1, d.before a0 Z = true) : (Jvm.Cond.instanceMethod ({ cls := "java/lang/Record", name := "<init>", desc := "()V" } : Jvm.MethodName)).before a0 Z = true := hw _ (List.mem_of_getElem? (i := 7) rfl)
set_option maxRecDepth 65536 in
theorem wd10 {Z : State} {a0 : Array Value} (hw : ∀ d ∈ tables_1, d.before a0 Z = true) : (Jvm.Cond.code ({ cls := "java/lang/Record", name := "<init>", desc := "()V" } : Jvm.MethodName) jdk_30_method_1_code (1 : Nat) (Option.none : Option Jvm.ClassFile.FieldType)).before a0 Z = true := hw _ (List.mem_of_getElem? (i := 10) rfl)
theorem dI_4 : Dc prog_17_method_1_code 4 (.aload_n 0) 1 5 := ⟨by decide +kernel, rfl⟩
theorem dI_5 : Dc prog_17_method_1_code 5 (.lload_n 1) 1 6 := ⟨by decide +kernel, rfl⟩
theorem dI_6 : Dc prog_17_method_1_code 6 (.putfield 7) 3 9 := ⟨by decide +kernel, rfl⟩
set_option maxRecDepth 65536 in
theorem wd15 {Z : State} {a0 : Array Value} (hw : ∀ d ∈ tables_1, d.before a0 Z = true) : (Jvm.Cond.laysFinal "com/example/headmap/headmap/model/Extent" "com/example/headmap/headmap/model/Extent" "size" "J").before a0 Z = true := hw _ (List.mem_of_getElem? (i := 15) rfl)
set_option maxRecDepth 65536 in
theorem wd14 {Z : State} {a0 : Array Value} (hw : ∀ d ∈ tables_1, d.before a0 Z = true) : (Jvm.Cond.fieldLink "com/example/headmap/headmap/model/Extent" (7 : Nat) "com/example/headmap/headmap/model/Extent" "size" "J").before a0 Z = true := hw _ (List.mem_of_getElem? (i := 14) rfl)
set_option maxRecDepth 65536 in
theorem wd1 {Z : State} {a0 : Array Value} (hw : ∀ d ∈ tables_1, d.before a0 Z = true) : (Jvm.Cond.instantiable "com/example/headmap/headmap/model/Extent" (2 : Nat)).before a0 Z = true := hw _ (List.mem_of_getElem? (i := 1) rfl)
set_option maxRecDepth 65536 in
theorem wd17 {Z : State} {a0 : Array Value} (hw : ∀ d ∈ tables_1, d.before a0 Z = true) : (Jvm.Cond.laysFinal "com/example/headmap/headmap/model/Extent" "com/example/headmap/headmap/model/Extent" "offset" "J").before a0 Z = true := hw _ (List.mem_of_getElem? (i := 17) rfl)
theorem dI_9 : Dc prog_17_method_1_code 9 (.aload_n 0) 1 10 := ⟨by decide +kernel, rfl⟩
theorem dI_10 : Dc prog_17_method_1_code 10 (.lload_n 3) 1 11 := ⟨by decide +kernel, rfl⟩
theorem dI_11 : Dc prog_17_method_1_code 11 (.putfield 13) 3 14 := ⟨by decide +kernel, rfl⟩
set_option maxRecDepth 65536 in
theorem wd16 {Z : State} {a0 : Array Value} (hw : ∀ d ∈ tables_1, d.before a0 Z = true) : (Jvm.Cond.fieldLink "com/example/headmap/headmap/model/Extent" (13 : Nat) "com/example/headmap/headmap/model/Extent" "offset" "J").before a0 Z = true := hw _ (List.mem_of_getElem? (i := 16) rfl)
theorem dI_14 : Dc prog_17_method_1_code 14 .return_ 1 15 := ⟨by decide +kernel, rfl⟩
theorem efI (m : MethodId) (x0 : Addr) (x1 : Int64) (x2 : Int64) : entryFrame m #[.ref x0, .long x1, .long x2] 5 = mkF m 0 #[.val (.ref x0), .val (.long x1), .second, .val (.long x2), .second] [] := by first | (simp [entryFrame, mkF, argsToLocals, Value.category]; done) | rfl
theorem pnI : plainFor (⟨"com/example/headmap/headmap/model/Extent", "<init>", "(JJ)V"⟩ : MethodName) = true := plainFor_of_name (by first | (simp [plainName, overriddenIn]; done) | decide +kernel)
theorem dL_0 : Dc jdk_35_method_26_code 0 (.aload_n 0) 1 1 := ⟨by decide +kernel, rfl⟩
theorem dL_1 : Dc jdk_35_method_26_code 1 (.invokespecial 270) 3 4 := ⟨by decide +kernel, rfl⟩
set_option maxRecDepth 65536 in
theorem wd46 {Z : State} {a0 : Array Value} (hw : ∀ d ∈ tables_1, d.before a0 Z = true) : (Jvm.Cond.initialized "java/lang/Number").before a0 Z = true := hw _ (List.mem_of_getElem? (i := 46) rfl)
set_option maxRecDepth 65536 in
theorem wd42 {Z : State} {a0 : Array Value} (hw : ∀ d ∈ tables_1, d.before a0 Z = true) : (Jvm.Cond.methodLink "java/lang/Long" (270 : Nat) ({ cls := "java/lang/Number", name := "<init>", desc := "()V" } : Jvm.MethodName)).before a0 Z = true := hw _ (List.mem_of_getElem? (i := 42) rfl)
set_option maxRecDepth 65536 in
theorem wd43 {Z : State} {a0 : Array Value} (hw : ∀ d ∈ tables_1, d.before a0 Z = true) : (Jvm.Cond.instanceMethod ({ cls := "java/lang/Number", name := "<init>", desc := "()V" } : Jvm.MethodName)).before a0 Z = true := hw _ (List.mem_of_getElem? (i := 43) rfl)
set_option maxRecDepth 65536 in
theorem wd47 {Z : State} {a0 : Array Value} (hw : ∀ d ∈ tables_1, d.before a0 Z = true) : (Jvm.Cond.code ({ cls := "java/lang/Number", name := "<init>", desc := "()V" } : Jvm.MethodName) jdk_18_method_1_code (1 : Nat) (Option.none : Option Jvm.ClassFile.FieldType)).before a0 Z = true := hw _ (List.mem_of_getElem? (i := 47) rfl)
theorem dL_4 : Dc jdk_35_method_26_code 4 (.aload_n 0) 1 5 := ⟨by decide +kernel, rfl⟩
theorem dL_5 : Dc jdk_35_method_26_code 5 (.lload_n 1) 1 6 := ⟨by decide +kernel, rfl⟩
theorem dL_6 : Dc jdk_35_method_26_code 6 (.putfield 273) 3 9 := ⟨by decide +kernel, rfl⟩
set_option maxRecDepth 65536 in
theorem wd50 {Z : State} {a0 : Array Value} (hw : ∀ d ∈ tables_1, d.before a0 Z = true) : (Jvm.Cond.laysFinal "java/lang/Long" "java/lang/Long" "value" "J").before a0 Z = true := hw _ (List.mem_of_getElem? (i := 50) rfl)
set_option maxRecDepth 65536 in
theorem wd49 {Z : State} {a0 : Array Value} (hw : ∀ d ∈ tables_1, d.before a0 Z = true) : (Jvm.Cond.fieldLink "java/lang/Long" (273 : Nat) "java/lang/Long" "value" "J").before a0 Z = true := hw _ (List.mem_of_getElem? (i := 49) rfl)
set_option maxRecDepth 65536 in
theorem wd37 {Z : State} {a0 : Array Value} (hw : ∀ d ∈ tables_1, d.before a0 Z = true) : (Jvm.Cond.instantiable "java/lang/Long" (1 : Nat)).before a0 Z = true := hw _ (List.mem_of_getElem? (i := 37) rfl)
theorem dL_9 : Dc jdk_35_method_26_code 9 .return_ 1 10 := ⟨by decide +kernel, rfl⟩
theorem efL (m : MethodId) (x0 : Addr) (x1 : Int64) : entryFrame m #[.ref x0, .long x1] 3 = mkF m 0 #[.val (.ref x0), .val (.long x1), .second] [] := by first | (simp [entryFrame, mkF, argsToLocals, Value.category]; done) | rfl
theorem pnL : plainFor (⟨"java/lang/Long", "<init>", "(J)V"⟩ : MethodName) = true := plainFor_of_name (by first | (simp [plainName, overriddenIn]; done) | decide +kernel)
theorem dE1_0 : Dc prog_17_method_2_code 0 (.aload_n 1) 1 1 := ⟨by decide +kernel, rfl⟩
theorem dE1_1 : Dc prog_17_method_2_code 1 (.instanceof 8) 3 4 := ⟨by decide +kernel, rfl⟩
set_option maxRecDepth 65536 in
theorem wd31 {Z : State} {a0 : Array Value} (hw : ∀ d ∈ tables_1, d.before a0 Z = true) : (Jvm.Cond.classLink "com/example/headmap/headmap/model/Extent" (8 : Nat) "com/example/headmap/headmap/model/Extent").before a0 Z = true := hw _ (List.mem_of_getElem? (i := 31) rfl)
theorem dE1_4 : Db prog_17_method_2_code 4 (.ifCond .eq 36) 36 7 40 := ⟨by decide +kernel, rfl, by decide, by decide⟩
theorem dE1_7 : Dc prog_17_method_2_code 7 (.aload_n 1) 1 8 := ⟨by decide +kernel, rfl⟩
theorem dE1_8 : Dc prog_17_method_2_code 8 (.checkcast 8) 3 11 := ⟨by decide +kernel, rfl⟩
theorem dE1_11 : Dc prog_17_method_2_code 11 (.astore_n 2) 1 12 := ⟨by decide +kernel, rfl⟩
theorem dE1_12 : Dc prog_17_method_2_code 12 (.aload_n 2) 1 13 := ⟨by decide +kernel, rfl⟩
theorem dE1_13 : Dc prog_17_method_2_code 13 (.getfield 7) 3 16 := ⟨by decide +kernel, rfl⟩
theorem dE1_16 : Dc prog_17_method_2_code 16 (.aload_n 0) 1 17 := ⟨by decide +kernel, rfl⟩
theorem dE1_17 : Dc prog_17_method_2_code 17 (.getfield 7) 3 20 := ⟨by decide +kernel, rfl⟩
theorem dE1_20 : Dc prog_17_method_2_code 20 .lcmp 1 21 := ⟨by decide +kernel, rfl⟩
theorem dE1_21 : Db prog_17_method_2_code 21 (.ifCond .ne 19) 19 24 40 := ⟨by decide +kernel, rfl, by decide, by decide⟩
theorem dE1_24 : Dc prog_17_method_2_code 24 (.aload_n 2) 1 25 := ⟨by decide +kernel, rfl⟩
theorem dE1_25 : Dc prog_17_method_2_code 25 (.getfield 13) 3 28 := ⟨by decide +kernel, rfl⟩
theorem dE1_28 : Dc prog_17_method_2_code 28 (.aload_n 0) 1 29 := ⟨by decide +kernel, rfl⟩
theorem dE1_29 : Dc prog_17_method_2_code 29 (.getfield 13) 3 32 := ⟨by decide +kernel, rfl⟩
theorem dE1_32 : Dc prog_17_method_2_code 32 .lcmp 1 33 := ⟨by decide +kernel, rfl⟩
theorem dE1_33 : Db prog_17_method_2_code 33 (.ifCond .ne 7) 7 36 40 := ⟨by decide +kernel, rfl, by decide, by decide⟩
theorem dE1_36 : Dc prog_17_method_2_code 36 (.iconst 1) 1 37 := ⟨by decide +kernel, rfl⟩
theorem dE1_37 : Db prog_17_method_2_code 37 (.goto 4) 4 40 41 := ⟨by decide +kernel, rfl, by decide, by decide⟩
theorem dE1_41 : Dc prog_17_method_2_code 41 .ireturn 1 42 := ⟨by decide +kernel, rfl⟩
theorem dE1_40 : Dc prog_17_method_2_code 40 (.iconst 0) 1 41 := ⟨by decide +kernel, rfl⟩
theorem efE1 (m : MethodId) (x0 : Addr) (x1 : Addr) : entryFrame m #[.ref x0, .ref x1] 3 = mkF m 0 #[.val (.ref x0), .val (.ref x1), .unset] [] := by first | (simp [entryFrame, mkF, argsToLocals, Value.category]; done) | rfl
theorem pnE1 : plainFor (⟨"com/example/headmap/headmap/model/Extent", "equals", "(Ljava/lang/Object;)Z"⟩ : MethodName) = true := plainFor_of_name (by first | (simp [plainName, overriddenIn]; done) | decide +kernel)
theorem dE2_0 : Dc prog_17_method_2_code 0 (.aload_n 1) 1 1 := ⟨by decide +kernel, rfl⟩
theorem dE2_1 : Dc prog_17_method_2_code 1 (.instanceof 8) 3 4 := ⟨by decide +kernel, rfl⟩
theorem dE2_4 : Db prog_17_method_2_code 4 (.ifCond .eq 36) 36 7 40 := ⟨by decide +kernel, rfl, by decide, by decide⟩
theorem dE2_40 : Dc prog_17_method_2_code 40 (.iconst 0) 1 41 := ⟨by decide +kernel, rfl⟩
theorem dE2_41 : Dc prog_17_method_2_code 41 .ireturn 1 42 := ⟨by decide +kernel, rfl⟩
theorem efE2 (m : MethodId) (x0 : Addr) : entryFrame m #[.ref x0, .null] 3 = mkF m 0 #[.val (.ref x0), .val .null, .unset] [] := by first | (simp [entryFrame, mkF, argsToLocals, Value.category]; done) | rfl
theorem pnE2 : plainFor (⟨"com/example/headmap/headmap/model/Extent", "equals", "(Ljava/lang/Object;)Z"⟩ : MethodName) = true := plainFor_of_name (by first | (simp [plainName, overriddenIn]; done) | decide +kernel)
theorem dE3_0 : Dc prog_17_method_2_code 0 (.aload_n 1) 1 1 := ⟨by decide +kernel, rfl⟩
theorem dE3_1 : Dc prog_17_method_2_code 1 (.instanceof 8) 3 4 := ⟨by decide +kernel, rfl⟩
set_option maxRecDepth 65536 in
theorem wd33 {Z : State} {a0 : Array Value} (hw : ∀ d ∈ tables_1, d.before a0 Z = true) : (Jvm.Cond.superclass "java/lang/Long" "java/lang/Number").before a0 Z = true := hw _ (List.mem_of_getElem? (i := 33) rfl)
set_option maxRecDepth 65536 in
theorem wd34 {Z : State} {a0 : Array Value} (hw : ∀ d ∈ tables_1, d.before a0 Z = true) : (Jvm.Cond.superclass "java/lang/Number" "java/lang/Object").before a0 Z = true := hw _ (List.mem_of_getElem? (i := 34) rfl)
set_option maxRecDepth 65536 in
theorem wd35 {Z : State} {a0 : Array Value} (hw : ∀ d ∈ tables_1, d.before a0 Z = true) : (Jvm.Cond.noSuperclass "java/lang/Object").before a0 Z = true := hw _ (List.mem_of_getElem? (i := 35) rfl)
theorem dE3_4 : Db prog_17_method_2_code 4 (.ifCond .eq 36) 36 7 40 := ⟨by decide +kernel, rfl, by decide, by decide⟩
theorem dE3_40 : Dc prog_17_method_2_code 40 (.iconst 0) 1 41 := ⟨by decide +kernel, rfl⟩
theorem dE3_41 : Dc prog_17_method_2_code 41 .ireturn 1 42 := ⟨by decide +kernel, rfl⟩
theorem efE3 (m : MethodId) (x0 : Addr) (x1 : Addr) : entryFrame m #[.ref x0, .ref x1] 3 = mkF m 0 #[.val (.ref x0), .val (.ref x1), .unset] [] := by first | (simp [entryFrame, mkF, argsToLocals, Value.category]; done) | rfl
theorem pnE3 : plainFor (⟨"com/example/headmap/headmap/model/Extent", "equals", "(Ljava/lang/Object;)Z"⟩ : MethodName) = true := plainFor_of_name (by first | (simp [plainName, overriddenIn]; done) | decide +kernel)
theorem dV_0 : Dc jdk_35_method_24_code 0 (.sipush 128) 3 3 := ⟨by decide +kernel, rfl⟩
theorem dV_3 : Dc jdk_35_method_24_code 3 (.istore_n 2) 1 4 := ⟨by decide +kernel, rfl⟩
theorem dV_4 : Dc jdk_35_method_24_code 4 (.lload_n 0) 1 5 := ⟨by decide +kernel, rfl⟩
theorem dV_5 : Dc jdk_35_method_24_code 5 (.ldc2_w 230) 3 8 := ⟨by decide +kernel, rfl⟩
set_option maxRecDepth 65536 in
theorem wd22 {Z : State} {a0 : Array Value} (hw : ∀ d ∈ tables_1, d.before a0 Z = true) : (Jvm.Cond.constantLong "java/lang/Long" (230 : Nat) (-128 : Int64)).before a0 Z = true := hw _ (List.mem_of_getElem? (i := 22) rfl)
theorem dV_8 : Dc jdk_35_method_24_code 8 .lcmp 1 9 := ⟨by decide +kernel, rfl⟩
theorem dV_9 : Db jdk_35_method_24_code 9 (.ifCond .lt 22) 22 12 31 := ⟨by decide +kernel, rfl, by decide, by decide⟩
theorem dV_31 : Dc jdk_35_method_24_code 31 (.new 1) 3 34 := ⟨by decide +kernel, rfl⟩
set_option maxRecDepth 65536 in
theorem wd36 {Z : State} {a0 : Array Value} (hw : ∀ d ∈ tables_1, d.before a0 Z = true) : (Jvm.Cond.classLink "java/lang/Long" (1 : Nat) "java/lang/Long").before a0 Z = true := hw _ (List.mem_of_getElem? (i := 36) rfl)
set_option maxRecDepth 65536 in
theorem wd20 {Z : State} {a0 : Array Value} (hw : ∀ d ∈ tables_1, d.before a0 Z = true) : (Jvm.Cond.initialized "java/lang/Long").before a0 Z = true := hw _ (List.mem_of_getElem? (i := 20) rfl)
theorem dV_34 : Dc jdk_35_method_24_code 34 .dup 1 35 := ⟨by decide +kernel, rfl⟩
theorem dV_35 : Dc jdk_35_method_24_code 35 (.lload_n 0) 1 36 := ⟨by decide +kernel, rfl⟩
theorem dV_36 : Dc jdk_35_method_24_code 36 (.invokespecial 240) 3 39 := ⟨by decide +kernel, rfl⟩
theorem pd_2 : parseMethodDescriptor "(J)V" = some ⟨[.long], none⟩ := by decide +kernel
set_option maxRecDepth 65536 in
theorem wd38 {Z : State} {a0 : Array Value} (hw : ∀ d ∈ tables_1, d.before a0 Z = true) : (Jvm.Cond.methodLink "java/lang/Long" (240 : Nat) ({ cls := "java/lang/Long", name := "<init>", desc := "(J)V" } : Jvm.MethodName)).before a0 Z = true := hw _ (List.mem_of_getElem? (i := 38) rfl)
set_option maxRecDepth 65536 in
theorem wd39 {Z : State} {a0 : Array Value} (hw : ∀ d ∈ tables_1, d.before a0 Z = true) : (Jvm.Cond.instanceMethod ({ cls := "java/lang/Long", name := "<init>", desc := "(J)V" } : Jvm.MethodName)).before a0 Z = true := hw _ (List.mem_of_getElem? (i := 39) rfl)
set_option maxRecDepth 65536 in
theorem wd41 {Z : State} {a0 : Array Value} (hw : ∀ d ∈ tables_1, d.before a0 Z = true) : (Jvm.Cond.code ({ cls := "java/lang/Long", name := "<init>", desc := "(J)V" } : Jvm.MethodName) jdk_35_method_26_code (3 : Nat) (Option.none : Option Jvm.ClassFile.FieldType)).before a0 Z = true := hw _ (List.mem_of_getElem? (i := 41) rfl)
theorem dV_39 : Dc jdk_35_method_24_code 39 .areturn 1 40 := ⟨by decide +kernel, rfl⟩
theorem dV_12 : Dc jdk_35_method_24_code 12 (.lload_n 0) 1 13 := ⟨by decide +kernel, rfl⟩
theorem dV_13 : Dc jdk_35_method_24_code 13 (.ldc2_w 232) 3 16 := ⟨by decide +kernel, rfl⟩
set_option maxRecDepth 65536 in
theorem wd23 {Z : State} {a0 : Array Value} (hw : ∀ d ∈ tables_1, d.before a0 Z = true) : (Jvm.Cond.constantLong "java/lang/Long" (232 : Nat) (127 : Int64)).before a0 Z = true := hw _ (List.mem_of_getElem? (i := 23) rfl)
theorem dV_16 : Dc jdk_35_method_24_code 16 .lcmp 1 17 := ⟨by decide +kernel, rfl⟩
theorem dV_17 : Db jdk_35_method_24_code 17 (.ifCond .gt 14) 14 20 31 := ⟨by decide +kernel, rfl, by decide, by decide⟩
theorem dV_20 : Dc jdk_35_method_24_code 20 (.getstatic 234) 3 23 := ⟨by decide +kernel, rfl⟩
set_option maxRecDepth 65536 in
theorem wd24 {Z : State} {a0 : Array Value} (hw : ∀ d ∈ tables_1, d.before a0 Z = true) : (Jvm.Cond.fieldLink "java/lang/Long" (234 : Nat) "java/lang/Long$LongCache" "cache" "[Ljava/lang/Long;").before a0 Z = true := hw _ (List.mem_of_getElem? (i := 24) rfl)
theorem dV_23 : Dc jdk_35_method_24_code 23 (.lload_n 0) 1 24 := ⟨by decide +kernel, rfl⟩
theorem dV_24 : Dc jdk_35_method_24_code 24 .l2i 1 25 := ⟨by decide +kernel, rfl⟩
theorem dV_25 : Dc jdk_35_method_24_code 25 (.sipush 128) 3 28 := ⟨by decide +kernel, rfl⟩
theorem dV_28 : Dc jdk_35_method_24_code 28 .iadd 1 29 := ⟨by decide +kernel, rfl⟩
theorem dV_29 : Dc jdk_35_method_24_code 29 .aaload 1 30 := ⟨by decide +kernel, rfl⟩
theorem dV_30 : Dc jdk_35_method_24_code 30 .areturn 1 31 := ⟨by decide +kernel, rfl⟩
theorem efV (m : MethodId) (x0 : Int64) : entryFrame m #[.long x0] 3 = mkF m 0 #[.val (.long x0), .second, .unset] [] := by first | (simp [entryFrame, mkF, argsToLocals, Value.category]; done) | rfl
theorem pnV : plainFor (⟨"java/lang/Long", "valueOf", "(J)Ljava/lang/Long;"⟩ : MethodName) = true := plainFor_of_name (by first | (simp [plainName, overriddenIn]; done) | decide +kernel)
theorem d0_0 : Dc code 0 (.iload 8) 2 2 := ⟨by decide +kernel, rfl⟩
theorem d0_2 : Dc code 2 (.iconst 1) 1 3 := ⟨by decide +kernel, rfl⟩
theorem d0_3 : Dc code 3 .iand 1 4 := ⟨by decide +kernel, rfl⟩
theorem d0_4 : Db code 4 (.ifCond .eq 7) 7 7 11 := ⟨by decide +kernel, rfl, by decide, by decide⟩
theorem d0_11 : Dc code 11 (.lload 4) 2 13 := ⟨by decide +kernel, rfl⟩
theorem d0_7 : Dc code 7 (.lload_n 0) 1 8 := ⟨by decide +kernel, rfl⟩
theorem d0_8 : Db code 8 (.goto 5) 5 11 13 := ⟨by decide +kernel, rfl, by decide, by decide⟩
theorem d0_13 : Dc code 13 (.lstore 9) 2 15 := ⟨by decide +kernel, rfl⟩
theorem d0_15 : Dc code 15 (.iload 8) 2 17 := ⟨by decide +kernel, rfl⟩
theorem d0_17 : Dc code 17 (.iconst 2) 1 18 := ⟨by decide +kernel, rfl⟩
theorem d0_18 : Dc code 18 .iand 1 19 := ⟨by decide +kernel, rfl⟩
theorem d0_19 : Db code 19 (.ifCond .eq 7) 7 22 26 := ⟨by decide +kernel, rfl, by decide, by decide⟩
theorem d0_26 : Dc code 26 (.lload 6) 2 28 := ⟨by decide +kernel, rfl⟩
theorem d0_22 : Dc code 22 (.lload_n 2) 1 23 := ⟨by decide +kernel, rfl⟩
theorem d0_23 : Db code 23 (.goto 5) 5 26 28 := ⟨by decide +kernel, rfl, by decide, by decide⟩
theorem d0_28 : Dc code 28 (.lstore 11) 2 30 := ⟨by decide +kernel, rfl⟩
theorem d0_30 : Dc code 30 (.new 7) 3 33 := ⟨by decide +kernel, rfl⟩
set_option maxRecDepth 65536 in
theorem wd0 {Z : State} {a0 : Array Value} (hw : ∀ d ∈ tables_1, d.before a0 Z = true) : (Jvm.Cond.classLink "com/example/headmap/headmap/model/ExtentEqualsPinLaw" (7 : Nat) "com/example/headmap/headmap/model/Extent").before a0 Z = true := hw _ (List.mem_of_getElem? (i := 0) rfl)
set_option maxRecDepth 65536 in
theorem wd2 {Z : State} {a0 : Array Value} (hw : ∀ d ∈ tables_1, d.before a0 Z = true) : (Jvm.Cond.initialized "com/example/headmap/headmap/model/Extent").before a0 Z = true := hw _ (List.mem_of_getElem? (i := 2) rfl)
theorem d0_33 : Dc code 33 .dup 1 34 := ⟨by decide +kernel, rfl⟩
theorem d0_34 : Dc code 34 (.lload_n 0) 1 35 := ⟨by decide +kernel, rfl⟩
theorem d0_35 : Dc code 35 (.lload_n 2) 1 36 := ⟨by decide +kernel, rfl⟩
theorem d0_36 : Dc code 36 (.invokespecial 9) 3 39 := ⟨by decide +kernel, rfl⟩
theorem pd_3 : parseMethodDescriptor "(JJ)V" = some ⟨[.long, .long], none⟩ := by decide +kernel
set_option maxRecDepth 65536 in
theorem wd3 {Z : State} {a0 : Array Value} (hw : ∀ d ∈ tables_1, d.before a0 Z = true) : (Jvm.Cond.methodLink "com/example/headmap/headmap/model/ExtentEqualsPinLaw" (9 : Nat) ({ cls := "com/example/headmap/headmap/model/Extent", name := "<init>", desc := "(JJ)V" } : Jvm.MethodName)).before a0 Z = true := hw _ (List.mem_of_getElem? (i := 3) rfl)
set_option maxRecDepth 65536 in
theorem wd4 {Z : State} {a0 : Array Value} (hw : ∀ d ∈ tables_1, d.before a0 Z = true) : (Jvm.Cond.instanceMethod ({ cls := "com/example/headmap/headmap/model/Extent", name := "<init>", desc := "(JJ)V" } : Jvm.MethodName)).before a0 Z = true := hw _ (List.mem_of_getElem? (i := 4) rfl)
set_option maxRecDepth 65536 in
theorem wd5 {Z : State} {a0 : Array Value} (hw : ∀ d ∈ tables_1, d.before a0 Z = true) : (Jvm.Cond.code ({ cls := "com/example/headmap/headmap/model/Extent", name := "<init>", desc := "(JJ)V" } : Jvm.MethodName) prog_17_method_1_code (5 : Nat) (Option.none : Option Jvm.ClassFile.FieldType)).before a0 Z = true := hw _ (List.mem_of_getElem? (i := 5) rfl)
theorem d0_39 : Dc code 39 (.astore 13) 2 41 := ⟨by decide +kernel, rfl⟩
theorem d0_41 : Dc code 41 (.new 7) 3 44 := ⟨by decide +kernel, rfl⟩
theorem d0_44 : Dc code 44 .dup 1 45 := ⟨by decide +kernel, rfl⟩
theorem d0_45 : Dc code 45 (.lload 9) 2 47 := ⟨by decide +kernel, rfl⟩
theorem d0_47 : Dc code 47 (.lload 11) 2 49 := ⟨by decide +kernel, rfl⟩
theorem d0_49 : Dc code 49 (.invokespecial 9) 3 52 := ⟨by decide +kernel, rfl⟩
theorem d0_52 : Dc code 52 (.astore 14) 2 54 := ⟨by decide +kernel, rfl⟩
theorem d0_54 : Dc code 54 (.lload 9) 2 56 := ⟨by decide +kernel, rfl⟩
theorem d0_56 : Dc code 56 (.lload_n 0) 1 57 := ⟨by decide +kernel, rfl⟩
theorem d0_57 : Dc code 57 .lcmp 1 58 := ⟨by decide +kernel, rfl⟩
theorem d0_58 : Db code 58 (.ifCond .ne 14) 14 61 72 := ⟨by decide +kernel, rfl, by decide, by decide⟩
theorem d0_61 : Dc code 61 (.lload 11) 2 63 := ⟨by decide +kernel, rfl⟩
theorem d0_63 : Dc code 63 (.lload_n 2) 1 64 := ⟨by decide +kernel, rfl⟩
theorem d0_64 : Dc code 64 .lcmp 1 65 := ⟨by decide +kernel, rfl⟩
theorem d0_65 : Db code 65 (.ifCond .ne 7) 7 68 72 := ⟨by decide +kernel, rfl, by decide, by decide⟩
theorem d0_68 : Dc code 68 (.iconst 1) 1 69 := ⟨by decide +kernel, rfl⟩
theorem d0_69 : Db code 69 (.goto 4) 4 72 73 := ⟨by decide +kernel, rfl, by decide, by decide⟩
theorem d0_72 : Dc code 72 (.iconst 0) 1 73 := ⟨by decide +kernel, rfl⟩
theorem d0_73 : Dc code 73 (.istore 15) 2 75 := ⟨by decide +kernel, rfl⟩
theorem d0_75 : Dc code 75 (.lload_n 0) 1 76 := ⟨by decide +kernel, rfl⟩
theorem d0_76 : Dc code 76 (.invokestatic 12) 3 79 := ⟨by decide +kernel, rfl⟩
theorem pd_4 : parseMethodDescriptor "(J)Ljava/lang/Long;" = some ⟨[.long], some (.object "java/lang/Long")⟩ := by decide +kernel
set_option maxRecDepth 65536 in
theorem wd18 {Z : State} {a0 : Array Value} (hw : ∀ d ∈ tables_1, d.before a0 Z = true) : (Jvm.Cond.methodLink "com/example/headmap/headmap/model/ExtentEqualsPinLaw" (12 : Nat) ({ cls := "java/lang/Long", name := "valueOf", desc := "(J)Ljava/lang/Long;" } : Jvm.MethodName)).before a0 Z = true := hw _ (List.mem_of_getElem? (i := 18) rfl)
set_option maxRecDepth 65536 in
theorem wd19 {Z : State} {a0 : Array Value} (hw : ∀ d ∈ tables_1, d.before a0 Z = true) : (Jvm.Cond.static ({ cls := "java/lang/Long", name := "valueOf", desc := "(J)Ljava/lang/Long;" } : Jvm.MethodName)).before a0 Z = true := hw _ (List.mem_of_getElem? (i := 19) rfl)
set_option maxRecDepth 65536 in
theorem wd21 {Z : State} {a0 : Array Value} (hw : ∀ d ∈ tables_1, d.before a0 Z = true) : (Jvm.Cond.code ({ cls := "java/lang/Long", name := "valueOf", desc := "(J)Ljava/lang/Long;" } : Jvm.MethodName) jdk_35_method_24_code (3 : Nat) (Option.some (Jvm.ClassFile.FieldType.object "java/lang/Long"))).before a0 Z = true := hw _ (List.mem_of_getElem? (i := 21) rfl)
theorem d0_79 : Dc code 79 (.astore 16) 2 81 := ⟨by decide +kernel, rfl⟩
theorem d0_81 : Dc code 81 (.aload 13) 2 83 := ⟨by decide +kernel, rfl⟩
theorem d0_83 : Dc code 83 (.aload 14) 2 85 := ⟨by decide +kernel, rfl⟩
theorem d0_85 : Dc code 85 (.invokevirtual 18) 3 88 := ⟨by decide +kernel, rfl⟩
theorem pd_5 : parseMethodDescriptor "(Ljava/lang/Object;)Z" = some ⟨[(.object "java/lang/Object")], some .boolean⟩ := by decide +kernel
set_option maxRecDepth 65536 in
theorem wd26 {Z : State} {a0 : Array Value} (hw : ∀ d ∈ tables_1, d.before a0 Z = true) : (Jvm.Cond.methodLink "com/example/headmap/headmap/model/ExtentEqualsPinLaw" (18 : Nat) ({ cls := "com/example/headmap/headmap/model/Extent", name := "equals", desc := "(Ljava/lang/Object;)Z" } : Jvm.MethodName)).before a0 Z = true := hw _ (List.mem_of_getElem? (i := 26) rfl)
set_option maxRecDepth 65536 in
theorem wd27 {Z : State} {a0 : Array Value} (hw : ∀ d ∈ tables_1, d.before a0 Z = true) : (Jvm.Cond.declares ({ cls := "com/example/headmap/headmap/model/Extent", name := "equals", desc := "(Ljava/lang/Object;)Z" } : Jvm.MethodName)).before a0 Z = true := hw _ (List.mem_of_getElem? (i := 27) rfl)
set_option maxRecDepth 65536 in
theorem wd29 {Z : State} {a0 : Array Value} (hw : ∀ d ∈ tables_1, d.before a0 Z = true) : (Jvm.Cond.selects "com/example/headmap/headmap/model/Extent" ({ cls := "com/example/headmap/headmap/model/Extent", name := "equals", desc := "(Ljava/lang/Object;)Z" } : Jvm.MethodName) ({ cls := "com/example/headmap/headmap/model/Extent", name := "equals", desc := "(Ljava/lang/Object;)Z" } : Jvm.MethodName)).before a0 Z = true := hw _ (List.mem_of_getElem? (i := 29) rfl)
set_option maxRecDepth 65536 in
theorem wd28 {Z : State} {a0 : Array Value} (hw : ∀ d ∈ tables_1, d.before a0 Z = true) : (Jvm.Cond.instanceMethod ({ cls := "com/example/headmap/headmap/model/Extent", name := "equals", desc := "(Ljava/lang/Object;)Z" } : Jvm.MethodName)).before a0 Z = true := hw _ (List.mem_of_getElem? (i := 28) rfl)
set_option maxRecDepth 65536 in
theorem wd30 {Z : State} {a0 : Array Value} (hw : ∀ d ∈ tables_1, d.before a0 Z = true) : (Jvm.Cond.code ({ cls := "com/example/headmap/headmap/model/Extent", name := "equals", desc := "(Ljava/lang/Object;)Z" } : Jvm.MethodName) prog_17_method_2_code (3 : Nat) (Option.some Jvm.ClassFile.FieldType.boolean)).before a0 Z = true := hw _ (List.mem_of_getElem? (i := 30) rfl)
theorem d0_88 : Dc code 88 (.iload 15) 2 90 := ⟨by decide +kernel, rfl⟩
theorem d0_90 : Db code 90 (.if_icmp .ne 48) 48 93 138 := ⟨by decide +kernel, rfl, by decide, by decide⟩
theorem d0_93 : Dc code 93 (.aload 14) 2 95 := ⟨by decide +kernel, rfl⟩
theorem d0_95 : Dc code 95 (.aload 13) 2 97 := ⟨by decide +kernel, rfl⟩
theorem d0_97 : Dc code 97 (.invokevirtual 18) 3 100 := ⟨by decide +kernel, rfl⟩
theorem d0_100 : Dc code 100 (.iload 15) 2 102 := ⟨by decide +kernel, rfl⟩
theorem d0_102 : Db code 102 (.if_icmp .ne 36) 36 105 138 := ⟨by decide +kernel, rfl, by decide, by decide⟩
theorem d0_105 : Dc code 105 (.aload 13) 2 107 := ⟨by decide +kernel, rfl⟩
theorem d0_107 : Dc code 107 (.aload 13) 2 109 := ⟨by decide +kernel, rfl⟩
theorem d0_109 : Dc code 109 (.invokevirtual 18) 3 112 := ⟨by decide +kernel, rfl⟩
theorem d0_112 : Db code 112 (.ifCond .eq 26) 26 115 138 := ⟨by decide +kernel, rfl, by decide, by decide⟩
theorem d0_115 : Dc code 115 (.aload 13) 2 117 := ⟨by decide +kernel, rfl⟩
theorem d0_117 : Dc code 117 .aconst_null 1 118 := ⟨by decide +kernel, rfl⟩
theorem d0_118 : Dc code 118 (.invokevirtual 18) 3 121 := ⟨by decide +kernel, rfl⟩
theorem d0_121 : Db code 121 (.ifCond .ne 17) 17 124 138 := ⟨by decide +kernel, rfl, by decide, by decide⟩
theorem d0_124 : Dc code 124 (.aload 13) 2 126 := ⟨by decide +kernel, rfl⟩
theorem d0_126 : Dc code 126 (.aload 16) 2 128 := ⟨by decide +kernel, rfl⟩
theorem d0_128 : Dc code 128 (.invokevirtual 18) 3 131 := ⟨by decide +kernel, rfl⟩
theorem d0_131 : Db code 131 (.ifCond .ne 7) 7 134 138 := ⟨by decide +kernel, rfl, by decide, by decide⟩
theorem d0_134 : Dc code 134 (.iconst 1) 1 135 := ⟨by decide +kernel, rfl⟩
theorem d0_135 : Db code 135 (.goto 4) 4 138 139 := ⟨by decide +kernel, rfl, by decide, by decide⟩
theorem d0_139 : Dc code 139 .ireturn 1 140 := ⟨by decide +kernel, rfl⟩
theorem ef0 (m : MethodId) (x0 : Int64) (x1 : Int64) (x2 : Int64) (x3 : Int64) (x4 : Int32) : entryFrame m #[.long x0, .long x1, .long x2, .long x3, .int x4] maxLocals = mkF m 0 #[.val (.long x0), .second, .val (.long x1), .second, .val (.long x2), .second, .val (.long x3), .second, .val (.int x4), .unset, .unset, .unset, .unset, .unset, .unset, .unset, .unset] [] := by first | (simp [entryFrame, mkF, argsToLocals, Value.category, maxLocals]; done) | rfl
theorem pn0 : plainFor (x : MethodName) = true := plainFor_of_name (by show plainName "com/example/headmap/headmap/model/ExtentEqualsPinLaw" = true; first | (simp [plainName, overriddenIn]; done) | decide +kernel)
def own_eq (s o u v : Int64) : Int32 := if u = s ∧ v = o then 1 else 0
theorem own_e1 {s o u v : Int64} (h : u = s ∧ v = o) : own_eq s o u v = 1 := if_pos h
theorem own_e0 {s o u v : Int64} (h : ¬ (u = s ∧ v = o)) : own_eq s o u v = 0 := if_neg h
theorem own_sym (s o u v : Int64) : own_eq s o u v = own_eq u v s o := by
  by_cases h : u = s ∧ v = o
  · rw [own_e1 h, own_e1 ⟨h.1.symm, h.2.symm⟩]
  · rw [own_e0 h, own_e0 (fun q => h ⟨q.1.symm, q.2.symm⟩)]
/-- each place of the table of boxes holds a Long -/
def Bx (Z : State) (h : Heap) (f : Int32 → Value) : Prop := ∀ j : Int32, ¬ j < 0 → j < 256 → ∃ b : Addr, f j = .ref b ∧ Exa Z h b "java/lang/Long"
theorem Bx.ext {Z : State} {h h' : Heap} {f : Int32 → Value} (F : Bx Z h f) (X : Ext h h') : Bx Z h' f := fun j h1 h2 => by obtain ⟨b, e, r⟩ := F j h1 h2; exact ⟨b, e, r.ext X⟩
theorem Bx.wr {Z : State} {h h' : Heap} {f : Int32 → Value} {a : Addr} {sl : Nat} {v : Value} (F : Bx Z h f) (W : Wr h h' a sl v) : Bx Z h' f := fun j h1 h2 => by obtain ⟨b, e, r⟩ := F j h1 h2; exact ⟨b, e, r.wr W⟩
theorem Bx.keep {Z : State} {h h' : Heap} {f : Int32 → Value} {ws : List Addr} (F : Bx Z h f) (K : Keep h h' ws) : Bx Z h' f := fun j h1 h2 => by obtain ⟨b, e, r⟩ := F j h1 h2; exact ⟨b, e, r.keep K⟩
theorem own_no {Z : State} {a0 : Array Value} {C S O K : String} {n : Nat} (w1 : (Jvm.Cond.superclass C S).before a0 Z = true) (w2 : (Jvm.Cond.superclass S O).before a0 Z = true) (w3 : (Jvm.Cond.noSuperclass O).before a0 Z = true) (wi : (Jvm.Cond.instantiable K n).before a0 Z = true) (h1 : O ≠ K) (h2 : S ≠ K) (h3 : C ≠ K) :
    ∃ c t, Z.vm.findClass C = some c ∧ Z.vm.findClass K = some t ∧ Z.vm.assignable c t = false := by
  obtain ⟨t, k', g1, g2, g3, g4, -⟩ := Cond.instantiable_spec wi
  have r : NS Z O K := by
    obtain ⟨c, k, q1, q2, q3, -, -⟩ := Cond.noSuperclass_spec w3
    have ne := ids_ne q1 g1 h1
    refine ⟨c, t, q1, g1, fun fuel => ?_⟩
    cases fuel with
    | zero => rfl
    | succ f => simp [Vm.isSubclassAux, ne, q2, q3]
  obtain ⟨c, t', q1, q2, q3⟩ := NS.step w1 (NS.step w2 r h2) h3
  obtain ⟨p, k, kp, e1, e2, e3, e4, e5, -, e7⟩ := Cond.superclass_spec q1 w1
  cases g1.symm.trans q2
  have ne := ids_ne q1 g1 h3
  have g7 : k'.isInterface = false := by
    cases hq : k'.isInterface
    · rfl
    · rw [hq] at g4; cases g4
  refine ⟨c, t, q1, g1, ?_⟩
  show Z.vm.assignableAux (255 + 1) c t = false
  simp [Vm.assignableAux, ne, e2, g2, e5, g3, g7, Vm.isSubclass, q3]
theorem own_idx {p : Int64} (h1 : ¬ p < (-128 : Int64)) (h2 : ¬ (127 : Int64) < p) : ¬ p.toInt32 + (128 : Int32) < 0 ∧ p.toInt32 + (128 : Int32) < 256 := by
  have e1 : (-128 : Int64).toInt = -128 := rfl
  have e2 : (127 : Int64).toInt = 127 := rfl
  have e3 : (128 : Int32).toInt = 128 := rfl
  have e4 : (0 : Int32).toInt = 0 := rfl
  have e5 : (256 : Int32).toInt = 256 := rfl
  rw [Int64.lt_iff_toInt_lt, e1] at h1
  rw [Int64.lt_iff_toInt_lt, e2] at h2
  have q := c_l2i p
  have q2 := c_iadd p.toInt32 128
  have r := rng32 p.toInt32
  have r2 := rng32 (p.toInt32 + 128)
  rw [Int32.lt_iff_toInt_lt, Int32.lt_iff_toInt_lt, e4, e5]
  omega
theorem own_box {Z : State} {t : Addr} {c : Cell} {val : Int32 → Value} (B : Bxs Z t c "java/lang/Long" "J" 256 val) : ∃ f : Int32 → Value, Ia Z Z.heap t (.object "java/lang/Long") (256 : Int32) f ∧ Bx Z Z.heap f := by
  obtain ⟨A, S, M, G⟩ := B
  refine ⟨fun j => (c.slots[j.toNatClampNeg]?).getD .null, ⟨c, A, S, M, fun j h1 h2 => ?_⟩, fun j h1 h2 => ?_⟩
  · obtain ⟨b, e, -⟩ := G j (inb_of S ⟨h1, h2⟩)
    show _ = some ((c.slots[j.toNatClampNeg]?).getD .null)
    rw [e]; rfl
  · obtain ⟨b, e, X, -⟩ := G j (inb_of S ⟨h1, h2⟩)
    exact ⟨b, by show (c.slots[j.toNatClampNeg]?).getD .null = _; rw [e]; rfl, X⟩
theorem own_len {Z : State} {args : Array Value} {t : Term} {x : Addr} {c : Cell} {ty : FieldType} {n : Int32} (et : t.eval args Z none [] Z = some (.ref x)) (A : Arr Z Z.heap x c ty) (h : (Term.length t).eval args Z none [] Z = some (.int n)) : c.slots.size < 2 ^ 31 ∧ c.slots.size.toInt32 = n := by
  have ha := A.fin (Vm.Alike.refl _)
  have q := Jvm.Free.SBG.length_lt et ha h
  refine ⟨q, ?_⟩
  have := (len_f et ha q).symm.trans h
  exact Value.int.inj (Option.some.inj this)

set_option maxRecDepth 65536 in
set_option maxHeartbeats 40000000 in
theorem rmR (l : Launch) (Z : State) (a0 : Array Value) (hw : ∀ d ∈ tables_1, d.before a0 Z = true) (a : Addr) (h : Heap) (n0 : Nat)  : Con l Z ⟨"java/lang/Record", "<init>", "()V"⟩ jdk_30_method_1_code 1 none ({ frames := 1, cells := 0, slots := 0, locals := 12 } : Room) #[.ref a] h n0 (fun vr h' => vr = none ∧ h' = h) := by
  refine Con.of pnR (fun m_ => efR m_ a) (fun E K => ?_)
  refine K.aloadN dR_0 rfl rfl ?_
  refine K.initO 0 dR_1 (wd11 hw) (wd12 hw) (wd13 hw) rfl (by decide) (Nat.le_of_eq rfl) (by decide) ?_
  exact K.ret dR_4 (by decide) (by decide) ⟨rfl, rfl⟩
set_option maxRecDepth 65536 in
set_option maxHeartbeats 40000000 in
theorem rmN (l : Launch) (Z : State) (a0 : Array Value) (hw : ∀ d ∈ tables_1, d.before a0 Z = true) (a : Addr) (h : Heap) (n0 : Nat)  : Con l Z ⟨"java/lang/Number", "<init>", "()V"⟩ jdk_18_method_1_code 1 none ({ frames := 1, cells := 0, slots := 0, locals := 12 } : Room) #[.ref a] h n0 (fun vr h' => vr = none ∧ h' = h) := by
  refine Con.of pnN (fun m_ => efN m_ a) (fun E K => ?_)
  refine K.aloadN dN_0 rfl rfl ?_
  refine K.initO 0 dN_1 (wd48 hw) (wd12 hw) (wd13 hw) rfl (by decide) (Nat.le_of_eq rfl) (by decide) ?_
  exact K.ret dN_4 (by decide) (by decide) ⟨rfl, rfl⟩
set_option maxRecDepth 65536 in
set_option maxHeartbeats 40000000 in
theorem rmI (l : Launch) (Z : State) (a0 : Array Value) (hw : ∀ d ∈ tables_1, d.before a0 Z = true) (a : Addr) (u v : Int64) (h : Heap) (n0 : Nat) (P0 : Exa Z h a "com/example/headmap/headmap/model/Extent") (P1 : Fld Z h a "com/example/headmap/headmap/model/Extent" "size" "J" (.long (0 : Int64))) (P2 : Fld Z h a "com/example/headmap/headmap/model/Extent" "offset" "J" (.long (0 : Int64))) (P3 : n0 ≤ a) : Con l Z ⟨"com/example/headmap/headmap/model/Extent", "<init>", "(JJ)V"⟩ prog_17_method_1_code 5 none ({ frames := 2, cells := 0, slots := 0, locals := 24 } : Room) #[.ref a, .long u, .long v] h n0 (fun vr h' => vr = none ∧ (Keep h h' [a] ∧ Exa Z h' a "com/example/headmap/headmap/model/Extent" ∧ Fld Z h' a "com/example/headmap/headmap/model/Extent" "size" "J" (.long u) ∧ Fld Z h' a "com/example/headmap/headmap/model/Extent" "offset" "J" (.long v))) := by
  refine Con.of pnI (fun m_ => efI m_ a u v) (fun E K => ?_)
  have K1 : Keep h h [a] := Keep.refl _ _
  refine K.aloadN dI_0 rfl rfl ?_
  refine K.callI (a := a) [] [] 0 0 0 dI_1 rfl rfl (wd6 hw) (wd7 hw) (wd9 hw) (wd10 hw) (by decide) (rmR l Z a0 hw a h n0 ) rfl (lenOf pd_1 rfl) rfl (Nat.le_of_eq rfl) (by decide) (by decide) rfl rfl (by decide) (by decide) (goN ?_)
  refine K.aloadN dI_4 rfl rfl ?_
  refine K.lloadN dI_5 rfl ?_
  refine K.putF dI_6 (wd14 hw) P1 P0 (Or.inr ⟨(wd15 hw), rfl, rfl⟩) (wd1 hw) (ty := .long) (by decide) rfl rfl P3 (fun h2 W3 => ?_)
  have K4 := K1.wr W3 (Or.inl (List.mem_of_getElem? (i := 0) rfl))
  have E5 := P0.wr W3
  have F6 := P1.same W3
  have F7 := P2.other W3 (Or.inr (RoadKit.slot_ne (Or.inr (wd17 hw)) (Or.inr (wd15 hw)) (by decide) (t := .long) (t' := .long) (by decide) (by decide)))
  refine K.aloadN dI_9 rfl rfl ?_
  refine K.lloadN dI_10 rfl ?_
  refine K.putF dI_11 (wd16 hw) F7 E5 (Or.inr ⟨(wd17 hw), rfl, rfl⟩) (wd1 hw) (ty := .long) (by decide) rfl rfl P3 (fun h8 W9 => ?_)
  have K10 := K4.wr W9 (Or.inl (List.mem_of_getElem? (i := 0) rfl))
  have E11 := E5.wr W9
  have F12 := F6.other W9 (Or.inr (RoadKit.slot_ne (Or.inr (wd15 hw)) (Or.inr (wd17 hw)) (by decide) (t := .long) (t' := .long) (by decide) (by decide)))
  have F13 := F7.same W9
  exact K.ret dI_14 (by decide) (by decide) ⟨rfl, K10, E11, F12, F13⟩
set_option maxRecDepth 65536 in
set_option maxHeartbeats 40000000 in
theorem rmL (l : Launch) (Z : State) (a0 : Array Value) (hw : ∀ d ∈ tables_1, d.before a0 Z = true) (a : Addr) (u : Int64) (h : Heap) (n0 : Nat) (P0 : Exa Z h a "java/lang/Long") (P1 : Fld Z h a "java/lang/Long" "value" "J" (.long (0 : Int64))) (P2 : n0 ≤ a) : Con l Z ⟨"java/lang/Long", "<init>", "(J)V"⟩ jdk_35_method_26_code 3 none ({ frames := 2, cells := 0, slots := 0, locals := 24 } : Room) #[.ref a, .long u] h n0 (fun vr h' => vr = none ∧ (Keep h h' [a] ∧ Exa Z h' a "java/lang/Long")) := by
  refine Con.of pnL (fun m_ => efL m_ a u) (fun E K => ?_)
  have K1 : Keep h h [a] := Keep.refl _ _
  refine K.aloadN dL_0 rfl rfl ?_
  refine K.callI (a := a) [] [] 0 0 0 dL_1 rfl rfl (wd42 hw) (wd43 hw) (wd46 hw) (wd47 hw) (by decide) (rmN l Z a0 hw a h n0 ) rfl (lenOf pd_1 rfl) rfl (Nat.le_of_eq rfl) (by decide) (by decide) rfl rfl (by decide) (by decide) (goN ?_)
  refine K.aloadN dL_4 rfl rfl ?_
  refine K.lloadN dL_5 rfl ?_
  refine K.putF dL_6 (wd49 hw) P1 P0 (Or.inr ⟨(wd50 hw), rfl, rfl⟩) (wd37 hw) (ty := .long) (by decide) rfl rfl P2 (fun h2 W3 => ?_)
  have K4 := K1.wr W3 (Or.inl (List.mem_of_getElem? (i := 0) rfl))
  have E5 := P0.wr W3
  have F6 := P1.same W3
  exact K.ret dL_9 (by decide) (by decide) ⟨rfl, K4, E5⟩
set_option maxRecDepth 65536 in
set_option maxHeartbeats 40000000 in
theorem rmE1 (l : Launch) (Z : State) (a0 : Array Value) (hw : ∀ d ∈ tables_1, d.before a0 Z = true) (a b : Addr) (s o u v : Int64) (h : Heap) (n0 : Nat) (P0 : Exa Z h b "com/example/headmap/headmap/model/Extent") (P1 : Fld Z h a "com/example/headmap/headmap/model/Extent" "size" "J" (.long s)) (P2 : Fld Z h a "com/example/headmap/headmap/model/Extent" "offset" "J" (.long o)) (P3 : Fld Z h b "com/example/headmap/headmap/model/Extent" "size" "J" (.long u)) (P4 : Fld Z h b "com/example/headmap/headmap/model/Extent" "offset" "J" (.long v)) : Con l Z ⟨"com/example/headmap/headmap/model/Extent", "equals", "(Ljava/lang/Object;)Z"⟩ prog_17_method_2_code 3 (some .boolean) ({ frames := 0, cells := 0, slots := 0, locals := 0 } : Room) #[.ref a, .ref b] h n0 (fun vr h' => vr = some (.int (own_eq s o u v)) ∧ h' = h) := by
  refine Con.of pnE1 (fun m_ => efE1 m_ a b) (fun E K => ?_)
  refine K.aloadN dE1_0 rfl rfl ?_
  refine K.instY dE1_1 (wd31 hw) (Ins.self P0) ?_
  refine K.if_eq dE1_4 (fun u => absurd u (by decide)) (fun _ => ?_)
  refine K.aloadN dE1_7 rfl rfl ?_
  refine K.castY dE1_8 (wd31 hw) (Ins.self P0) ?_
  refine K.astoreN #[.val (.ref a), .val (.ref b), .val (.ref b)] dE1_11 rfl rfl ?_
  refine K.aloadN dE1_12 rfl rfl ?_
  refine K.getF dE1_13 (wd14 hw) P3 ?_
  refine K.aloadN dE1_16 rfl rfl ?_
  refine K.getF dE1_17 (wd14 hw) P1 ?_
  refine K.lc_ne dE1_20 dE1_21 (fun hc1 => ?_) (fun hc1 => ?_)
  · refine K.aloadN dE1_24 rfl rfl ?_
    refine K.getF dE1_25 (wd16 hw) P4 ?_
    refine K.aloadN dE1_28 rfl rfl ?_
    refine K.getF dE1_29 (wd16 hw) P2 ?_
    refine K.lc_ne dE1_32 dE1_33 (fun hc2 => ?_) (fun hc2 => ?_)
    · refine K.iconst (1 : Int32) dE1_36 rfl ?_
      refine K.goto dE1_37 ?_
      exact K.ireturn dE1_41 (Or.inr (Or.inl rfl)) rfl (by decide) (by decide) ⟨(by rw [own_e1 ⟨hc1, hc2⟩]), rfl⟩
    · refine K.iconst (0 : Int32) dE1_40 rfl ?_
      exact K.ireturn dE1_41 (Or.inr (Or.inl rfl)) rfl (by decide) (by decide) ⟨(by rw [own_e0 (fun q => hc2 q.2)]), rfl⟩
  · refine K.iconst (0 : Int32) dE1_40 rfl ?_
    exact K.ireturn dE1_41 (Or.inr (Or.inl rfl)) rfl (by decide) (by decide) ⟨(by rw [own_e0 (fun q => hc1 q.1)]), rfl⟩
set_option maxRecDepth 65536 in
set_option maxHeartbeats 40000000 in
theorem rmE2 (l : Launch) (Z : State) (a0 : Array Value) (hw : ∀ d ∈ tables_1, d.before a0 Z = true) (a : Addr) (h : Heap) (n0 : Nat)  : Con l Z ⟨"com/example/headmap/headmap/model/Extent", "equals", "(Ljava/lang/Object;)Z"⟩ prog_17_method_2_code 3 (some .boolean) ({ frames := 0, cells := 0, slots := 0, locals := 0 } : Room) #[.ref a, .null] h n0 (fun vr h' => vr = some (.int (0 : Int32)) ∧ h' = h) := by
  refine Con.of pnE2 (fun m_ => efE2 m_ a) (fun E K => ?_)
  refine K.aloadN dE2_0 rfl rfl ?_
  refine K.instNull dE2_1 ?_
  refine K.if_eq dE2_4 (fun _ => ?_) (fun u => absurd rfl u)
  refine K.iconst (0 : Int32) dE2_40 rfl ?_
  exact K.ireturn dE2_41 (Or.inr (Or.inl rfl)) rfl (by decide) (by decide) ⟨rfl, rfl⟩
set_option maxRecDepth 65536 in
set_option maxHeartbeats 40000000 in
theorem rmE3 (l : Launch) (Z : State) (a0 : Array Value) (hw : ∀ d ∈ tables_1, d.before a0 Z = true) (a b : Addr) (h : Heap) (n0 : Nat) (P0 : Exa Z h b "java/lang/Long") : Con l Z ⟨"com/example/headmap/headmap/model/Extent", "equals", "(Ljava/lang/Object;)Z"⟩ prog_17_method_2_code 3 (some .boolean) ({ frames := 0, cells := 0, slots := 0, locals := 0 } : Room) #[.ref a, .ref b] h n0 (fun vr h' => vr = some (.int (0 : Int32)) ∧ h' = h) := by
  refine Con.of pnE3 (fun m_ => efE3 m_ a b) (fun E K => ?_)
  refine K.aloadN dE3_0 rfl rfl ?_
  refine K.instNo dE3_1 (wd31 hw) P0 (own_no (wd33 hw) (wd34 hw) (wd35 hw) (wd1 hw) (by decide) (by decide) (by decide)) ?_
  refine K.if_eq dE3_4 (fun _ => ?_) (fun u => absurd rfl u)
  refine K.iconst (0 : Int32) dE3_40 rfl ?_
  exact K.ireturn dE3_41 (Or.inr (Or.inl rfl)) rfl (by decide) (by decide) ⟨rfl, rfl⟩
set_option maxRecDepth 65536 in
set_option maxHeartbeats 40000000 in
theorem rmV (l : Launch) (Z : State) (a0 : Array Value) (hw : ∀ d ∈ tables_1, d.before a0 Z = true) (u : Int64) (t : Addr) (f : Int32 → Value) (h : Heap) (n0 : Nat) (PS : Sta Z h "java/lang/Long$LongCache" "cache" "[Ljava/lang/Long;" (.ref t)) (PA : Ia Z h t (.object "java/lang/Long") (256 : Int32) f) (PB : Bx Z h f) : Con l Z ⟨"java/lang/Long", "valueOf", "(J)Ljava/lang/Long;"⟩ jdk_35_method_24_code 3 (some (.object "java/lang/Long")) ({ frames := 3, cells := 1, slots := 1, locals := 39 } : Room) #[.long u] h n0 (fun v h' => ∃ r, v = some (.ref r) ∧ (Keep h h' [] ∧ Exa Z h' r "java/lang/Long")) := by
  refine Con.of pnV (fun m_ => efV m_ u) (fun E K => ?_)
  have K1 : Keep h h [] := Keep.refl _ _
  refine K.sipush (128 : Int32) dV_0 rfl ?_
  refine K.istoreN #[.val (.long u), .second, .val (.int (128 : Int32))] dV_3 rfl ?_
  refine K.lloadN dV_4 rfl ?_
  refine K.ldc2J dV_5 (wd22 hw) ?_
  refine K.lc_lt dV_8 dV_9 (fun hc2 => ?_) (fun hc2 => ?_)
  · refine K.newO 1 1 dV_31 (wd36 hw) (wd37 hw) (wd20 hw) rfl rfl (by decide) (by decide) (fun h4 a3 ha5 g6 X7 A8 D9 => ?_)
    have ks_a3 := ha_ge K1.1 ha5
    have lt_t_a3 : t < a3 := by rw [ha5]; exact PA.lt
    have K10 := K1.ext X7
    have S11 := PS.ext X7
    have I12 := PA.ext X7
    have F13 : Fld Z h4 a3 "java/lang/Long" "value" "J" (.long (0 : Int64)) := D9 (Or.inr (wd50 hw)) (ty := .long) (by decide)
    refine K.dup dV_34 rfl ?_
    refine K.lloadN dV_35 rfl ?_
    refine K.callI (a := a3) [.long u] [.ref a3] 1 1 1 dV_36 rfl rfl (wd38 hw) (wd39 hw) (wd20 hw) (wd41 hw) (by decide) (rmL l Z a0 hw a3 u h4 n0 A8 F13 g6) rfl (lenOf pd_2 rfl) rfl (Nat.le_of_eq rfl) (by decide) (by decide) rfl rfl (by decide) (by decide) (goU fun h14 q15 => ?_)
    obtain ⟨K16, E17⟩ := q15
    have K18 := K10.trans K16 (allS (Or.inr ks_a3) all0)
    have S19 := staK S11 K16 (allS (plE A8) all0)
    have I20 := I12.keep K16 (ninS (Nat.ne_of_lt lt_t_a3) nin0)
    have E21 := A8.keep K16
    exact K.areturn dV_39 rfl rfl rfl (by decide) (by decide) ⟨_, rfl, K18, E17⟩
  · refine K.lloadN dV_12 rfl ?_
    refine K.ldc2J dV_13 (wd23 hw) ?_
    refine K.lc_gt dV_16 dV_17 (fun hc22 => ?_) (fun hc22 => ?_)
    · refine K.newO 1 1 dV_31 (wd36 hw) (wd37 hw) (wd20 hw) rfl rfl (by decide) (by decide) (fun h24 a23 ha25 g26 X27 A28 D29 => ?_)
      have ks_a23 := ha_ge K1.1 ha25
      have lt_t_a23 : t < a23 := by rw [ha25]; exact PA.lt
      have K30 := K1.ext X27
      have S31 := PS.ext X27
      have I32 := PA.ext X27
      have F33 : Fld Z h24 a23 "java/lang/Long" "value" "J" (.long (0 : Int64)) := D29 (Or.inr (wd50 hw)) (ty := .long) (by decide)
      refine K.dup dV_34 rfl ?_
      refine K.lloadN dV_35 rfl ?_
      refine K.callI (a := a23) [.long u] [.ref a23] 1 1 1 dV_36 rfl rfl (wd38 hw) (wd39 hw) (wd20 hw) (wd41 hw) (by decide) (rmL l Z a0 hw a23 u h24 n0 A28 F33 g26) rfl (lenOf pd_2 rfl) rfl (Nat.le_of_eq rfl) (by decide) (by decide) rfl rfl (by decide) (by decide) (goU fun h34 q35 => ?_)
      obtain ⟨K36, E37⟩ := q35
      have K38 := K30.trans K36 (allS (Or.inr ks_a23) all0)
      have S39 := staK S31 K36 (allS (plE A28) all0)
      have I40 := I32.keep K36 (ninS (Nat.ne_of_lt lt_t_a23) nin0)
      have E41 := A28.keep K36
      exact K.areturn dV_39 rfl rfl rfl (by decide) (by decide) ⟨_, rfl, K38, E37⟩
    · refine K.getS dV_20 (wd24 hw) PS ?_
      refine K.lloadN dV_23 rfl ?_
      refine K.l2i dV_24 ?_
      refine K.sipush (128 : Int32) dV_25 rfl ?_
      refine K.iadd dV_28 ?_
      obtain ⟨b, hb, Eb⟩ := PB _ (own_idx hc2 hc22).1 (own_idx hc2 hc22).2
      refine K.aaload (v := .ref b) dV_29 PA rfl (own_idx hc2 hc22).1 (own_idx hc2 hc22).2 hb ?_
      exact K.areturn dV_30 rfl rfl rfl (by decide) (by decide) ⟨_, rfl, K1, Eb⟩
set_option maxRecDepth 65536 in
set_option maxHeartbeats 40000000 in
theorem rm0 (l : Launch) (Z : State) (a0 : Array Value) (hw : ∀ d ∈ tables_1, d.before a0 Z = true) (p q r s : Int64) (m : Int32) (t : Addr) (f : Int32 → Value) (h : Heap) (n0 : Nat) (PS : Sta Z h "java/lang/Long$LongCache" "cache" "[Ljava/lang/Long;" (.ref t)) (PA : Ia Z h t (.object "java/lang/Long") (256 : Int32) f) (PB : Bx Z h f) : Con l Z x code maxLocals ret room_1 #[.long p, .long q, .long r, .long s, .int m] h n0 (fun v h' => v = some (.int 1)) := by
  refine Con.of pn0 (fun m_ => ef0 m_ p q r s m) (fun E K => ?_)
  refine K.iload d0_0 rfl ?_
  refine K.iconst (1 : Int32) d0_2 rfl ?_
  refine K.iand d0_3 ?_
  refine cut (P := ∀ u : Int64, Wk E h 0 0 13 #[.val (.long p), .second, .val (.long q), .second, .val (.long r), .second, .val (.long s), .second, .val (.int m), .unset, .unset, .unset, .unset, .unset, .unset, .unset, .unset] [.long u]) (fun J1 => ?_) ?_
  · refine K.if_eq d0_4 (fun hc2 => ?_) (fun hc2 => ?_)
    · refine K.lload d0_11 rfl ?_
      exact J1 _
    · refine K.lloadN d0_7 rfl ?_
      refine K.goto d0_8 ?_
      exact J1 _
  intro u
  refine K.lstore #[.val (.long p), .second, .val (.long q), .second, .val (.long r), .second, .val (.long s), .second, .val (.int m), .val (.long u), .second, .unset, .unset, .unset, .unset, .unset, .unset] d0_13 rfl ?_
  refine K.iload d0_15 rfl ?_
  refine K.iconst (2 : Int32) d0_17 rfl ?_
  refine K.iand d0_18 ?_
  refine cut (P := ∀ v : Int64, Wk E h 0 0 28 #[.val (.long p), .second, .val (.long q), .second, .val (.long r), .second, .val (.long s), .second, .val (.int m), .val (.long u), .second, .unset, .unset, .unset, .unset, .unset, .unset] [.long v]) (fun J3 => ?_) ?_
  · refine K.if_eq d0_19 (fun hc4 => ?_) (fun hc4 => ?_)
    · refine K.lload d0_26 rfl ?_
      exact J3 _
    · refine K.lloadN d0_22 rfl ?_
      refine K.goto d0_23 ?_
      exact J3 _
  intro v
  refine K.lstore #[.val (.long p), .second, .val (.long q), .second, .val (.long r), .second, .val (.long s), .second, .val (.int m), .val (.long u), .second, .val (.long v), .second, .unset, .unset, .unset, .unset] d0_28 rfl ?_
  refine K.newO 1 2 d0_30 (wd0 hw) (wd1 hw) (wd2 hw) rfl rfl (by decide) (by decide) (fun h6 a5 ha7 g8 X9 A10 D11 => ?_)
  have lt_t_a5 : t < a5 := by rw [ha7]; exact PA.lt
  have S12 := PS.ext X9
  have I13 := PA.ext X9
  have B14 := PB.ext X9
  have F15 : Fld Z h6 a5 "com/example/headmap/headmap/model/Extent" "size" "J" (.long (0 : Int64)) := D11 (Or.inr (wd15 hw)) (ty := .long) (by decide)
  have F16 : Fld Z h6 a5 "com/example/headmap/headmap/model/Extent" "offset" "J" (.long (0 : Int64)) := D11 (Or.inr (wd17 hw)) (ty := .long) (by decide)
  refine K.dup d0_33 rfl ?_
  refine K.lloadN d0_34 rfl ?_
  refine K.lloadN d0_35 rfl ?_
  refine K.callI (a := a5) [.long p, .long q] [.ref a5] 1 1 2 d0_36 rfl rfl (wd3 hw) (wd4 hw) (wd2 hw) (wd5 hw) (by decide) (rmI l Z a0 hw a5 p q h6 n0 A10 F15 F16 g8) rfl (lenOf pd_3 rfl) rfl (Nat.le_of_eq rfl) (by decide) (by decide) rfl rfl (by decide) (by decide) (goU fun h17 q18 => ?_)
  obtain ⟨K19, E20, F21, F22⟩ := q18
  have S23 := staK S12 K19 (allS (plE A10) all0)
  have I24 := I13.keep K19 (ninS (Nat.ne_of_lt lt_t_a5) nin0)
  have B25 := B14.keep K19
  have E26 := A10.keep K19
  refine K.astore #[.val (.long p), .second, .val (.long q), .second, .val (.long r), .second, .val (.long s), .second, .val (.int m), .val (.long u), .second, .val (.long v), .second, .val (.ref a5), .unset, .unset, .unset] d0_39 rfl rfl ?_
  refine K.newO 2 4 d0_41 (wd0 hw) (wd1 hw) (wd2 hw) rfl rfl (by decide) (by decide) (fun h28 a27 ha29 g30 X31 A32 D33 => ?_)
  have lt_a5_a27 : a5 < a27 := by rw [ha29]; exact E20.lt
  have lt_t_a27 : t < a27 := by rw [ha29]; exact I24.lt
  have S34 := S23.ext X31
  have I35 := I24.ext X31
  have B36 := B25.ext X31
  have E37 := E20.ext X31
  have F38 := F21.ext X31
  have F39 := F22.ext X31
  have F40 : Fld Z h28 a27 "com/example/headmap/headmap/model/Extent" "size" "J" (.long (0 : Int64)) := D33 (Or.inr (wd15 hw)) (ty := .long) (by decide)
  have F41 : Fld Z h28 a27 "com/example/headmap/headmap/model/Extent" "offset" "J" (.long (0 : Int64)) := D33 (Or.inr (wd17 hw)) (ty := .long) (by decide)
  refine K.dup d0_44 rfl ?_
  refine K.lload d0_45 rfl ?_
  refine K.lload d0_47 rfl ?_
  refine K.callI (a := a27) [.long u, .long v] [.ref a27] 1 2 4 d0_49 rfl rfl (wd3 hw) (wd4 hw) (wd2 hw) (wd5 hw) (by decide) (rmI l Z a0 hw a27 u v h28 n0 A32 F40 F41 g30) rfl (lenOf pd_3 rfl) rfl (Nat.le_of_eq rfl) (by decide) (by decide) rfl rfl (by decide) (by decide) (goU fun h42 q43 => ?_)
  obtain ⟨K44, E45, F46, F47⟩ := q43
  have S48 := staK S34 K44 (allS (plE A32) all0)
  have I49 := I35.keep K44 (ninS (Nat.ne_of_lt lt_t_a27) nin0)
  have B50 := B36.keep K44
  have E51 := E37.keep K44
  have F52 := F38.keep K44 (ninS (Nat.ne_of_lt lt_a5_a27) nin0)
  have F53 := F39.keep K44 (ninS (Nat.ne_of_lt lt_a5_a27) nin0)
  have E54 := A32.keep K44
  refine K.astore #[.val (.long p), .second, .val (.long q), .second, .val (.long r), .second, .val (.long s), .second, .val (.int m), .val (.long u), .second, .val (.long v), .second, .val (.ref a5), .val (.ref a27), .unset, .unset] d0_52 rfl rfl ?_
  refine K.lload d0_54 rfl ?_
  refine K.lloadN d0_56 rfl ?_
  refine cut (P := ∀ z : Int32, own_eq p q u v = z → Wk E h42 2 4 73 #[.val (.long p), .second, .val (.long q), .second, .val (.long r), .second, .val (.long s), .second, .val (.int m), .val (.long u), .second, .val (.long v), .second, .val (.ref a5), .val (.ref a27), .unset, .unset] [.int z]) (fun J55 => ?_) ?_
  · refine K.lc_ne d0_57 d0_58 (fun hc56 => ?_) (fun hc56 => ?_)
    · refine K.lload d0_61 rfl ?_
      refine K.lloadN d0_63 rfl ?_
      refine K.lc_ne d0_64 d0_65 (fun hc57 => ?_) (fun hc57 => ?_)
      · refine K.iconst (1 : Int32) d0_68 rfl ?_
        refine K.goto d0_69 ?_
        exact J55 _ (own_e1 ⟨hc56, hc57⟩)
      · refine K.iconst (0 : Int32) d0_72 rfl ?_
        exact J55 _ (own_e0 (fun q => hc57 q.2))
    · refine K.iconst (0 : Int32) d0_72 rfl ?_
      exact J55 _ (own_e0 (fun q => hc56 q.1))
  intro z hz
  refine K.istore #[.val (.long p), .second, .val (.long q), .second, .val (.long r), .second, .val (.long s), .second, .val (.int m), .val (.long u), .second, .val (.long v), .second, .val (.ref a5), .val (.ref a27), .val (.int z), .unset] d0_73 rfl ?_
  refine K.lloadN d0_75 rfl ?_
  refine K.callS [.long p] [] 0 3 5 d0_76 (wd18 hw) (wd19 hw) (wd20 hw) (wd21 hw) (by decide) (rmV l Z a0 hw p t f h42 n0 S48 I49 B50) rfl (lenOf pd_4 rfl) rfl (Nat.le_of_eq rfl) (by decide) (by decide) rfl rfl (by decide) (by decide) (goR fun r58 h59 q60 => ?_)
  obtain ⟨K61, E62⟩ := q60
  have S63 := staK S48 K61 all0
  have I64 := I49.keep K61 nin0
  have B65 := B50.keep K61
  have E66 := E51.keep K61
  have F67 := F52.keep K61 nin0
  have F68 := F53.keep K61 nin0
  have E69 := E45.keep K61
  have F70 := F46.keep K61 nin0
  have F71 := F47.keep K61 nin0
  refine K.astore #[.val (.long p), .second, .val (.long q), .second, .val (.long r), .second, .val (.long s), .second, .val (.int m), .val (.long u), .second, .val (.long v), .second, .val (.ref a5), .val (.ref a27), .val (.int z), .val (.ref r58)] d0_79 rfl rfl ?_
  refine K.aload d0_81 rfl rfl ?_
  refine K.aload d0_83 rfl rfl ?_
  refine K.callV (a := a5) [.ref a27] [] 0 3 5 d0_85 (wd26 hw) (wd27 hw) (wd29 hw) (wd28 hw) (wd2 hw) (wd30 hw) (by decide) (rmE1 l Z a0 hw a5 a27 p q u v h59 n0 E69 F67 F68 F70 F71) E66 rfl (lenOf pd_5 rfl) rfl (Nat.le_of_eq rfl) (by decide) (by decide) rfl rfl (by decide) (by decide) (goP ?_)
  refine K.iload d0_88 rfl ?_
  refine K.ic_ne d0_90 (fun _ => ?_) (fun u => absurd hz u)
  refine K.aload d0_93 rfl rfl ?_
  refine K.aload d0_95 rfl rfl ?_
  refine K.callV (a := a27) [.ref a5] [] 0 3 5 d0_97 (wd26 hw) (wd27 hw) (wd29 hw) (wd28 hw) (wd2 hw) (wd30 hw) (by decide) (rmE1 l Z a0 hw a27 a5 u v p q h59 n0 E66 F70 F71 F67 F68) E69 rfl (lenOf pd_5 rfl) rfl (Nat.le_of_eq rfl) (by decide) (by decide) rfl rfl (by decide) (by decide) (goP ?_)
  refine K.iload d0_100 rfl ?_
  refine K.ic_ne d0_102 (fun _ => ?_) (fun u => absurd ((own_sym _ _ _ _).trans hz) u)
  refine K.aload d0_105 rfl rfl ?_
  refine K.aload d0_107 rfl rfl ?_
  refine K.callV (a := a5) [.ref a5] [] 0 3 5 d0_109 (wd26 hw) (wd27 hw) (wd29 hw) (wd28 hw) (wd2 hw) (wd30 hw) (by decide) (rmE1 l Z a0 hw a5 a5 p q p q h59 n0 E66 F67 F68 F67 F68) E66 rfl (lenOf pd_5 rfl) rfl (Nat.le_of_eq rfl) (by decide) (by decide) rfl rfl (by decide) (by decide) (goP ?_)
  refine K.if_eq d0_112 (fun u => absurd u (by rw [own_e1 ⟨rfl, rfl⟩]; decide)) (fun _ => ?_)
  refine K.aload d0_115 rfl rfl ?_
  refine K.aconst_null d0_117 ?_
  refine K.callV (a := a5) [.null] [] 0 3 5 d0_118 (wd26 hw) (wd27 hw) (wd29 hw) (wd28 hw) (wd2 hw) (wd30 hw) (by decide) (rmE2 l Z a0 hw a5 h59 n0 ) E66 rfl (lenOf pd_5 rfl) rfl (Nat.le_of_eq rfl) (by decide) (by decide) rfl rfl (by decide) (by decide) (goP ?_)
  refine K.if_ne d0_121 (fun _ => ?_) (fun u => absurd rfl u)
  refine K.aload d0_124 rfl rfl ?_
  refine K.aload d0_126 rfl rfl ?_
  refine K.callV (a := a5) [.ref r58] [] 0 3 5 d0_128 (wd26 hw) (wd27 hw) (wd29 hw) (wd28 hw) (wd2 hw) (wd30 hw) (by decide) (rmE3 l Z a0 hw a5 r58 h59 n0 E62) E66 rfl (lenOf pd_5 rfl) rfl (Nat.le_of_eq rfl) (by decide) (by decide) rfl rfl (by decide) (by decide) (goP ?_)
  refine K.if_ne d0_131 (fun _ => ?_) (fun u => absurd rfl u)
  refine K.iconst (1 : Int32) d0_134 rfl ?_
  refine K.goto d0_135 ?_
  exact K.ireturn d0_139 (Or.inr (Or.inl rfl)) rfl (by decide) (by decide) rfl
set_option maxRecDepth 65536 in
set_option maxHeartbeats 40000000 in
theorem comes_1 {Post : Tables → Env → Array Value → State → Outcome → State → Prop} (hpost : ∀ tb e args s v u, (limb_1_1.after args s (.returned v) u = true ∧ limb_1_2.after args s (.returned v) u = true ∧ True) → FrameEnd s (.returned v) u (Jvm.fieldLocs frame_1_writes args s ++ Jvm.arrayLocs frame_1_arrays args s ++ Jvm.staticLocs frame_1_statics s) 16 128 → Post tb e args s (.returned v) u) :
    ArmFor flags0 classFile x code maxLocals ret World_1 tables_1 room_1 Calls_1 rest_1 Pre_1 Post := by
  intro l hfl _ _ p e ha hc hk s m args below hf hA hF happ hP
  obtain ⟨hcalls, hrest, hpre⟩ := hP
  obtain ⟨-, -, -, hnamed, -, -, -, hat⟩ := (Spec.applies_iff hf).mp happ
  obtain ⟨hg, hn⟩ := and_e (Cond.before_iff.mp (show (Jvm.Cond.and given_1 narrow_1).before args s = true from hpre))
  obtain ⟨hcount, hk0⟩ := and_e hg
  obtain ⟨ha0, hk1⟩ := and_e hk0
  obtain ⟨ha1, hk2⟩ := and_e hk1
  obtain ⟨ha2, hk3⟩ := and_e hk2
  obtain ⟨ha3, hk4⟩ := and_e hk3
  obtain ⟨w0, w1, w2, w3, w4, rfl⟩ : ∃ w0 w1 w2 w3 w4 : Value, args = #[w0, w1, w2, w3, w4] := by
    have hs : args.size = 5 := by simpa [Cond.value, given_1] using hcount
    obtain ⟨L⟩ := args
    match L, hs with
    | [w0, w1, w2, w3, w4], _ => exact ⟨w0, w1, w2, w3, w4, rfl⟩
  have hw := fun d (hd : d ∈ tables_1) => atoms_spec (ws := Jvm.Cond.code x code maxLocals ret :: tables_1) hat d (List.mem_cons_of_mem _ hd)
  obtain ⟨i0, e0⟩ := isL_v ha0
  obtain rfl : w0 = (.long i0) := Option.some.inj e0
  obtain ⟨i1, e1⟩ := isL_v ha1
  obtain rfl : w1 = (.long i1) := Option.some.inj e1
  obtain ⟨i2, e2⟩ := isL_v ha2
  obtain rfl : w2 = (.long i2) := Option.some.inj e2
  obtain ⟨i3, e3⟩ := isL_v ha3
  obtain rfl : w3 = (.long i3) := Option.some.inj e3
  obtain ⟨i4, e4⟩ := is_v hk4
  obtain rfl : w4 = (.int i4) := Option.some.inj e4
  have hfit : Fit s := fun {y c} hc i hi => by
    obtain ⟨ha, rfl⟩ := Array.getElem?_eq_some_iff.mp hc
    have q := List.all_eq_true.mp ((Array.all_eq_true_iff_forall_mem.mp hF) _ (Array.getElem_mem ha)) i (List.mem_range.mpr hi)
    simpa [Array.getElem?_eq_getElem hi] using q
  obtain ⟨hsets, hown0⟩ := atoms_of _ (rest_1_c_eq ▸ (show rest_1_c.before _ s = true from hrest))
  obtain ⟨t, et⟩ := arr_v (Cond.before_iff.mp (hsets _ (List.mem_of_getElem? (i := 2) rfl)))
  have PS : Sta s s.heap "java/lang/Long$LongCache" "cache" "[Ljava/lang/Long;" (.ref t) := Sta.start et (Or.inl (hsets _ (List.mem_of_getElem? (i := 1) rfl)))
  obtain ⟨cl, A⟩ := Arr.start et (Cond.before_iff.mp (hsets _ (List.mem_of_getElem? (i := 2) rfl)))
  have hlen := eqv_i (Term.int_eval (256)) (Cond.before_iff.mp (hsets _ (List.mem_of_getElem? (i := 4) rfl)))
  obtain ⟨q31, e256⟩ := own_len et A hlen
  have B := Bxs.start (val := fun j => .long (j - 128).toInt64) (fun idx => et) A q31 e256 (by decide) (Cond.before_iff.mp (hsets _ (List.mem_of_getElem? (i := 5) rfl))) (fun X j hj hq => eqv_l (i2l_at (by simp [Term.eval, Term.index_eval, (back32 hj).1])) hq)
  obtain ⟨f, PA, PB⟩ := own_box B
  obtain ⟨n, o, h1, h2, h3, _, L, rfl, ⟨rfl, N⟩, hq⟩ := rm0 l s _ hw i0 i1 i2 i3 i4 t f s.heap s.heap.size PS PA PB (Nat.le_refl _) tables_1 p e ha hc hk s m _ below hf ((Spec.applies_iff_loose hf).mp happ).1 ⟨rfl, State.Warmed39.refl s, rfl⟩ trivial
  refine ⟨n, _, h1, h2, h3, hpost _ _ _ _ _ _ ⟨Cond.after_iff.mpr rfl, Cond.after_iff.mpr (eq_i res_at (Term.int_eval (1)) rfl), trivial⟩ ⟨hq.1, hq.2.1, (hq.2.2.sift fun y hy => Or.inr (N y hy)).mono (by decide) (by decide)⟩⟩
theorem main_1_1 : Claimed_1_1 := comes_1 fun _ _ _ _ _ _ h hF => ⟨h.1, hF⟩
theorem main_1_2 : Claimed_1_2 := comes_1 fun _ _ _ _ _ _ h hF => ⟨h.2.1, hF⟩
end Jvm.Pilot.@@N@@
namespace Jvm.Pilot.@@N@@
open Jvm Jvm.ClassFile Sem Op Lib Jvm.Free Jvm.Stand Jvm.Pilot.@@N@@.Jvm.D
/-! MADE BY PROGRAM (witnessworld.py) out of the Statement's table words and the real class files: 17 classes; the members and pool entries that the words name. The judged class is class 1, her method 1. -/
namespace start1
open Jvm.ClassFile
def u (s : String) : CpInfo := .utf8 (stringToUtf16 s)
/-- a pool by its gaps: so many unusable entries, then the entry; so many at the end -/
def gap : Nat → List CpInfo → List CpInfo
  | 0, r => r
  | n + 1, r => .unusable :: gap n r
def poolList (es : List (Nat × CpInfo)) (last : Nat) : List CpInfo := es.foldr (fun e r => gap e.1 (e.2 :: r)) (gap last [])
def pool (es : List (Nat × CpInfo)) (last : Nat) : Array CpInfo := ⟨poolList es last⟩
def fileOf (pool : Array CpInfo) (this : Nat) (attrs : Array Attribute := #[]) (ms : Array MethodInfo := #[]) (fl : Nat := 33) (sup : Nat := 0) (ifs : Array Nat := #[]) (fds : Array FieldInfo := #[]) : ClassFile where
  minorVersion := 0
  majorVersion := 65
  constantPool := pool
  accessFlags := fl
  thisClass := this
  superClass := sup
  interfaces := ifs
  fields := fds
  methods := ms
  attributes := attrs
def plain (name : String) (sup : Option ClassId) : Class where
  name := name
  kind := .ordinary
  loader := none
  accessFlags := 33
  super := sup
  interfaces := #[]
  cf := none
  fields := #[]
  methods := #[]
  instanceTypes := #[]
  staticTypes := #[]
  resolved := #[]
  callSites := []
  init := .initialized
  statics := none
  mirror := none

def pool0 : Array CpInfo := pool [(5, u "<init>"), (0, u "()V"), (1, .class_ 10), (1, u "java/lang/Object")] 113

def k0c0 : Code := { maxStack := 0, maxLocals := 1, code := object_method_1_code, exceptionTable := #[], attributes := #[] }
def k0m0 : Method := { name := "<init>", desc := "()V", sig := { parameters := [], returnType := none }, accessFlags := 1, code := some k0c0 }
/-- java/lang/Object -/
def k0 : Class := { plain "java/lang/Object" none with
  accessFlags := 33
  interfaces := #[]
  cf := some (fileOf pool0 8 #[] #[{ accessFlags := 1, nameIndex := 5, descriptorIndex := 6, attributes := #[] }] 33 0 #[] #[])
  fields := #[]
  methods := #[k0m0]
  instanceTypes := #[]
  staticTypes := #[]
  resolved := Array.replicate 124 none
  statics := none }

def pool1 : Array CpInfo := pool [(2, .class_ 4), (1, u "java/lang/Object"), (0, u "<init>"), (0, u "()V"), (0, .class_ 8), (0, u "com/example/headmap/headmap/model/Extent"), (0, .methodref 7 10), (0, .nameAndType 5 11), (0, u "(JJ)V"), (0, .methodref 13 14), (0, .class_ 15), (0, .nameAndType 16 17), (0, u "java/lang/Long"), (0, u "valueOf"), (0, u "(J)Ljava/lang/Long;"), (0, .methodref 7 19), (0, .nameAndType 20 21), (0, u "equals"), (0, u "(Ljava/lang/Object;)Z"), (0, .class_ 23), (0, u "com/example/headmap/headmap/model/ExtentEqualsPinLaw"), (2, u "law"), (0, u "(JJJJI)Z")] 3

def k1m0 : Method := { name := "<init>", desc := "()V", sig := { parameters := [], returnType := none }, accessFlags := 1, code := none }
def k1c1 : Code := { maxStack := 6, maxLocals := 17, code := code, exceptionTable := #[], attributes := #[] }
def k1m1 : Method := { name := "law", desc := "(JJJJI)Z", sig := { parameters := [.long, .long, .long, .long, .int], returnType := some .boolean }, accessFlags := 9, code := some k1c1 }
/-- com/example/headmap/headmap/model/ExtentEqualsPinLaw -/
def k1 : Class := { plain "com/example/headmap/headmap/model/ExtentEqualsPinLaw" (some 0) with
  accessFlags := 49
  interfaces := #[]
  cf := some (fileOf pool1 22 #[] #[{ accessFlags := 1, nameIndex := 5, descriptorIndex := 6, attributes := #[] }, { accessFlags := 9, nameIndex := 26, descriptorIndex := 27, attributes := #[] }] 49 2 #[] #[])
  fields := #[]
  methods := #[k1m0, k1m1]
  instanceTypes := #[]
  staticTypes := #[]
  resolved := Array.replicate 31 none
  statics := none }

def pool2 : Array CpInfo := pool [(1, .methodref 2 3), (0, .class_ 4), (0, .nameAndType 5 6), (0, u "java/lang/Object"), (0, u "<init>"), (0, u "()V"), (0, .class_ 8), (0, u "java/lang/Record")] 13

def k2c0 : Code := { maxStack := 1, maxLocals := 1, code := jdk_30_method_1_code, exceptionTable := #[], attributes := #[] }
def k2m0 : Method := { name := "<init>", desc := "()V", sig := { parameters := [], returnType := none }, accessFlags := 4, code := some k2c0 }
/-- java/lang/Record -/
def k2 : Class := { plain "java/lang/Record" (some 0) with
  accessFlags := 1057
  interfaces := #[]
  cf := some (fileOf pool2 7 #[] #[{ accessFlags := 4, nameIndex := 5, descriptorIndex := 6, attributes := #[] }] 1057 2 #[] #[])
  fields := #[]
  methods := #[k2m0]
  instanceTypes := #[]
  staticTypes := #[]
  resolved := Array.replicate 22 none
  statics := none }

def pool3 : Array CpInfo := pool [(1, .methodref 2 3), (0, .class_ 4), (0, .nameAndType 5 6), (0, u "java/lang/Record"), (0, u "<init>"), (0, u "()V"), (0, .fieldref 8 9), (0, .class_ 10), (0, .nameAndType 11 12), (0, u "com/example/headmap/headmap/model/Extent"), (0, u "size"), (0, u "J"), (0, .fieldref 8 14), (0, .nameAndType 15 12), (0, u "offset"), (10, u "(JJ)V"), (3, u "equals"), (0, u "(Ljava/lang/Object;)Z")] 25

def k3c0 : Code := { maxStack := 3, maxLocals := 5, code := prog_17_method_1_code, exceptionTable := #[], attributes := #[] }
def k3m0 : Method := { name := "<init>", desc := "(JJ)V", sig := { parameters := [.long, .long], returnType := none }, accessFlags := 1, code := some k3c0 }
def k3c1 : Code := { maxStack := 4, maxLocals := 3, code := prog_17_method_2_code, exceptionTable := #[], attributes := #[] }
def k3m1 : Method := { name := "equals", desc := "(Ljava/lang/Object;)Z", sig := { parameters := [(.object "java/lang/Object")], returnType := some .boolean }, accessFlags := 1, code := some k3c1 }
/-- com/example/headmap/headmap/model/Extent -/
def k3 : Class := { plain "com/example/headmap/headmap/model/Extent" (some 2) with
  accessFlags := 49
  interfaces := #[]
  cf := some (fileOf pool3 8 #[] #[{ accessFlags := 1, nameIndex := 5, descriptorIndex := 26, attributes := #[] }, { accessFlags := 1, nameIndex := 30, descriptorIndex := 31, attributes := #[] }] 49 2 #[] #[{ accessFlags := 18, nameIndex := 11, descriptorIndex := 12, attributes := #[] }, { accessFlags := 18, nameIndex := 15, descriptorIndex := 12, attributes := #[] }])
  fields := #[{ name := "size", type := .long, accessFlags := 18, slot := 0, constantValue := 0 }, { name := "offset", type := .long, accessFlags := 18, slot := 1, constantValue := 0 }]
  methods := #[k3m0, k3m1]
  instanceTypes := #[.long, .long]
  staticTypes := #[]
  resolved := Array.replicate 57 none
  statics := none }

def pool4 : Array CpInfo := pool [(1, .class_ 2), (0, u "java/io/Serializable"), (0, .class_ 4), (0, u "java/lang/Object")] 2

/-- java/io/Serializable -/
def k4 : Class := { plain "java/io/Serializable" (some 0) with
  accessFlags := 1537
  interfaces := #[]
  cf := some (fileOf pool4 1 #[] #[] 1537 3 #[] #[])
  fields := #[]
  methods := #[]
  instanceTypes := #[]
  staticTypes := #[]
  resolved := Array.replicate 7 none
  statics := none }

def pool5 : Array CpInfo := pool [(1, .methodref 2 3), (0, .class_ 4), (0, .nameAndType 5 6), (0, u "java/lang/Object"), (0, u "<init>"), (0, u "()V"), (1, .class_ 10), (1, u "java/lang/Number"), (2, .class_ 14), (0, u "java/io/Serializable"), (0, u "serialVersionUID"), (0, u "J")] 20

def k5c0 : Code := { maxStack := 1, maxLocals := 1, code := jdk_18_method_1_code, exceptionTable := #[], attributes := #[] }
def k5m0 : Method := { name := "<init>", desc := "()V", sig := { parameters := [], returnType := none }, accessFlags := 1, code := some k5c0 }
/-- java/lang/Number -/
def k5 : Class := { plain "java/lang/Number" (some 0) with
  accessFlags := 1057
  interfaces := #[4]
  cf := some (fileOf pool5 8 #[] #[{ accessFlags := 1, nameIndex := 5, descriptorIndex := 6, attributes := #[] }] 1057 2 #[13] #[{ accessFlags := 26, nameIndex := 15, descriptorIndex := 16, attributes := #[] }])
  fields := #[{ name := "serialVersionUID", type := .long, accessFlags := 26, slot := 0, constantValue := 0 }]
  methods := #[k5m0]
  instanceTypes := #[]
  staticTypes := #[.long]
  resolved := Array.replicate 37 none
  statics := none }

def pool6 : Array CpInfo := pool [(1, .class_ 2), (0, u "java/lang/Comparable"), (0, .class_ 4), (0, u "java/lang/Object")] 7

/-- java/lang/Comparable -/
def k6 : Class := { plain "java/lang/Comparable" (some 0) with
  accessFlags := 1537
  interfaces := #[]
  cf := some (fileOf pool6 1 #[] #[] 1537 3 #[] #[])
  fields := #[]
  methods := #[]
  instanceTypes := #[]
  staticTypes := #[]
  resolved := Array.replicate 12 none
  statics := none }

def pool7 : Array CpInfo := pool [(1, .class_ 2), (0, u "java/lang/constant/Constable"), (0, .class_ 4), (0, u "java/lang/Object")] 6

/-- java/lang/constant/Constable -/
def k7 : Class := { plain "java/lang/constant/Constable" (some 0) with
  accessFlags := 1537
  interfaces := #[]
  cf := some (fileOf pool7 1 #[] #[] 1537 3 #[] #[])
  fields := #[]
  methods := #[]
  instanceTypes := #[]
  staticTypes := #[]
  resolved := Array.replicate 11 none
  statics := none }

def pool8 : Array CpInfo := pool [(1, .class_ 2), (0, u "java/lang/constant/ConstantDesc"), (0, .class_ 4), (0, u "java/lang/Object")] 32

/-- java/lang/constant/ConstantDesc -/
def k8 : Class := { plain "java/lang/constant/ConstantDesc" (some 0) with
  accessFlags := 1537
  interfaces := #[]
  cf := some (fileOf pool8 1 #[] #[] 1537 3 #[] #[])
  fields := #[]
  methods := #[]
  instanceTypes := #[]
  staticTypes := #[]
  resolved := Array.replicate 37 none
  statics := none }

def pool9 : Array CpInfo := pool [(1, .class_ 2), (0, u "java/lang/Long"), (55, .nameAndType 59 60), (0, u "<init>"), (0, u "()V"), (24, u "valueOf"), (143, u "(J)Ljava/lang/Long;"), (0, .long 18446744073709551488), (1, .long 127), (1, .fieldref 235 236), (0, .class_ 237), (0, .nameAndType 238 239), (0, u "java/lang/Long$LongCache"), (0, u "cache"), (0, u "[Ljava/lang/Long;"), (0, .methodref 1 241), (0, .nameAndType 59 242), (0, u "(J)V"), (27, .methodref 271 58), (0, .class_ 272), (0, u "java/lang/Number"), (0, .fieldref 1 274), (0, .nameAndType 275 276), (0, u "value"), (0, u "J"), (84, u "TYPE"), (0, u "Ljava/lang/Class;"), (0, .class_ 364), (0, u "java/lang/Comparable"), (0, .class_ 366), (0, u "java/lang/constant/Constable"), (0, .class_ 368), (0, u "java/lang/constant/ConstantDesc"), (0, u "MIN_VALUE"), (1, u "MAX_VALUE"), (4, u "SIZE"), (0, u "I"), (1, u "BYTES"), (1, u "serialVersionUID")] 142

def k9c0 : Code := { maxStack := 4, maxLocals := 3, code := jdk_35_method_24_code, exceptionTable := #[], attributes := #[] }
def k9m0 : Method := { name := "valueOf", desc := "(J)Ljava/lang/Long;", sig := { parameters := [.long], returnType := some (.object "java/lang/Long") }, accessFlags := 9, code := some k9c0 }
def k9c1 : Code := { maxStack := 3, maxLocals := 3, code := jdk_35_method_26_code, exceptionTable := #[], attributes := #[] }
def k9m1 : Method := { name := "<init>", desc := "(J)V", sig := { parameters := [.long], returnType := none }, accessFlags := 1, code := some k9c1 }
/-- java/lang/Long -/
def k9 : Class := { plain "java/lang/Long" (some 5) with
  accessFlags := 49
  interfaces := #[6, 7, 8]
  cf := some (fileOf pool9 1 #[.nestMembers #[235]] #[{ accessFlags := 9, nameIndex := 85, descriptorIndex := 229, attributes := #[] }, { accessFlags := 1, nameIndex := 59, descriptorIndex := 242, attributes := #[] }] 49 271 #[363, 365, 367] #[{ accessFlags := 25, nameIndex := 369, descriptorIndex := 276, attributes := #[] }, { accessFlags := 25, nameIndex := 371, descriptorIndex := 276, attributes := #[] }, { accessFlags := 25, nameIndex := 361, descriptorIndex := 362, attributes := #[] }, { accessFlags := 18, nameIndex := 275, descriptorIndex := 276, attributes := #[] }, { accessFlags := 25, nameIndex := 376, descriptorIndex := 377, attributes := #[] }, { accessFlags := 25, nameIndex := 379, descriptorIndex := 377, attributes := #[] }, { accessFlags := 26, nameIndex := 381, descriptorIndex := 276, attributes := #[] }])
  fields := #[{ name := "MIN_VALUE", type := .long, accessFlags := 25, slot := 0, constantValue := 0 }, { name := "MAX_VALUE", type := .long, accessFlags := 25, slot := 1, constantValue := 0 }, { name := "TYPE", type := (.object "java/lang/Class"), accessFlags := 25, slot := 2, constantValue := 0 }, { name := "value", type := .long, accessFlags := 18, slot := 0, constantValue := 0 }, { name := "SIZE", type := .int, accessFlags := 25, slot := 3, constantValue := 0 }, { name := "BYTES", type := .int, accessFlags := 25, slot := 4, constantValue := 0 }, { name := "serialVersionUID", type := .long, accessFlags := 26, slot := 5, constantValue := 0 }]
  methods := #[k9m0, k9m1]
  instanceTypes := #[.long]
  staticTypes := #[.long, .long, (.object "java/lang/Class"), .int, .int, .long]
  resolved := Array.replicate 524 none
  statics := none }

def pool10 : Array CpInfo := pool [(2, .class_ 4), (1, u "java/lang/Object"), (0, u "<init>"), (0, u "()V"), (0, .class_ 8), (0, u "java/lang/Long"), (7, .class_ 18), (1, u "java/lang/Long$LongCache"), (0, u "$assertionsDisabled"), (0, u "Z"), (8, u "archivedCache"), (0, u "[Ljava/lang/Long;"), (7, u "cache")] 24

def k10m0 : Method := { name := "<init>", desc := "()V", sig := { parameters := [], returnType := none }, accessFlags := 2, code := none }
/-- java/lang/Long$LongCache -/
def k10 : Class := { plain "java/lang/Long$LongCache" (some 0) with
  accessFlags := 48
  interfaces := #[]
  cf := some (fileOf pool10 16 #[.nestHost 7] #[{ accessFlags := 2, nameIndex := 5, descriptorIndex := 6, attributes := #[] }] 48 2 #[] #[{ accessFlags := 24, nameIndex := 38, descriptorIndex := 30, attributes := #[] }, { accessFlags := 8, nameIndex := 29, descriptorIndex := 30, attributes := #[] }, { accessFlags := 4120, nameIndex := 19, descriptorIndex := 20, attributes := #[] }])
  fields := #[{ name := "cache", type := (.array (.object "java/lang/Long")), accessFlags := 24, slot := 0, constantValue := 0 }, { name := "archivedCache", type := (.array (.object "java/lang/Long")), accessFlags := 8, slot := 1, constantValue := 0 }, { name := "$assertionsDisabled", type := .boolean, accessFlags := 4120, slot := 2, constantValue := 0 }]
  methods := #[k10m0]
  instanceTypes := #[]
  staticTypes := #[(.array (.object "java/lang/Long")), (.array (.object "java/lang/Long")), .boolean]
  resolved := Array.replicate 63 none
  statics := some 0 }

def pool11 : Array CpInfo := pool [(1, u "java/lang/Cloneable"), (0, .class_ 1), (0, u "java/lang/Object"), (0, .class_ 3)] 3

/-- java/lang/Cloneable -/
def k11 : Class := { plain "java/lang/Cloneable" (some 0) with
  accessFlags := 1537
  interfaces := #[]
  cf := some (fileOf pool11 2 #[] #[] 1537 4 #[] #[])
  fields := #[]
  methods := #[]
  instanceTypes := #[]
  staticTypes := #[]
  resolved := Array.replicate 8 none
  statics := none }

/-- the primitive byte -/
def k12 : Class := { plain "byte" none with kind := .primitive 'B', accessFlags := 0x411 }
/-- [B -/
def k13 : Class := { plain "[B" (some 0) with kind := .array 12 .byte, interfaces := #[11, 4], accessFlags := 1041 }

/-- the primitive int -/
def k14 : Class := { plain "int" none with kind := .primitive 'I', accessFlags := 0x411 }
/-- [I -/
def k15 : Class := { plain "[I" (some 0) with kind := .array 14 .int, interfaces := #[11, 4], accessFlags := 1041 }

/-- [Ljava/lang/Long; -/
def k16 : Class := { plain "[Ljava/lang/Long;" (some 0) with kind := .array 9 (.object "java/lang/Long"), interfaces := #[11, 4], accessFlags := 1041 }

def heap : Heap := #[{ cls := 10, slots := #[.ref 1, .null, .int 0], vm := .statics 10 },
  { cls := 16, slots := #[.ref 2, .ref 3, .ref 4, .ref 5, .ref 6, .ref 7, .ref 8, .ref 9, .ref 10, .ref 11, .ref 12, .ref 13, .ref 14, .ref 15, .ref 16, .ref 17, .ref 18, .ref 19, .ref 20, .ref 21, .ref 22, .ref 23, .ref 24, .ref 25, .ref 26, .ref 27, .ref 28, .ref 29, .ref 30, .ref 31, .ref 32, .ref 33, .ref 34, .ref 35, .ref 36, .ref 37, .ref 38, .ref 39, .ref 40, .ref 41, .ref 42, .ref 43, .ref 44, .ref 45, .ref 46, .ref 47, .ref 48, .ref 49, .ref 50, .ref 51, .ref 52, .ref 53, .ref 54, .ref 55, .ref 56, .ref 57, .ref 58, .ref 59, .ref 60, .ref 61, .ref 62, .ref 63, .ref 64, .ref 65, .ref 66, .ref 67, .ref 68, .ref 69, .ref 70, .ref 71, .ref 72, .ref 73, .ref 74, .ref 75, .ref 76, .ref 77, .ref 78, .ref 79, .ref 80, .ref 81, .ref 82, .ref 83, .ref 84, .ref 85, .ref 86, .ref 87, .ref 88, .ref 89, .ref 90, .ref 91, .ref 92, .ref 93, .ref 94, .ref 95, .ref 96, .ref 97, .ref 98, .ref 99, .ref 100, .ref 101, .ref 102, .ref 103, .ref 104, .ref 105, .ref 106, .ref 107, .ref 108, .ref 109, .ref 110, .ref 111, .ref 112, .ref 113, .ref 114, .ref 115, .ref 116, .ref 117, .ref 118, .ref 119, .ref 120, .ref 121, .ref 122, .ref 123, .ref 124, .ref 125, .ref 126, .ref 127, .ref 128, .ref 129, .ref 130, .ref 131, .ref 132, .ref 133, .ref 134, .ref 135, .ref 136, .ref 137, .ref 138, .ref 139, .ref 140, .ref 141, .ref 142, .ref 143, .ref 144, .ref 145, .ref 146, .ref 147, .ref 148, .ref 149, .ref 150, .ref 151, .ref 152, .ref 153, .ref 154, .ref 155, .ref 156, .ref 157, .ref 158, .ref 159, .ref 160, .ref 161, .ref 162, .ref 163, .ref 164, .ref 165, .ref 166, .ref 167, .ref 168, .ref 169, .ref 170, .ref 171, .ref 172, .ref 173, .ref 174, .ref 175, .ref 176, .ref 177, .ref 178, .ref 179, .ref 180, .ref 181, .ref 182, .ref 183, .ref 184, .ref 185, .ref 186, .ref 187, .ref 188, .ref 189, .ref 190, .ref 191, .ref 192, .ref 193, .ref 194, .ref 195, .ref 196, .ref 197, .ref 198, .ref 199, .ref 200, .ref 201, .ref 202, .ref 203, .ref 204, .ref 205, .ref 206, .ref 207, .ref 208, .ref 209, .ref 210, .ref 211, .ref 212, .ref 213, .ref 214, .ref 215, .ref 216, .ref 217, .ref 218, .ref 219, .ref 220, .ref 221, .ref 222, .ref 223, .ref 224, .ref 225, .ref 226, .ref 227, .ref 228, .ref 229, .ref 230, .ref 231, .ref 232, .ref 233, .ref 234, .ref 235, .ref 236, .ref 237, .ref 238, .ref 239, .ref 240, .ref 241, .ref 242, .ref 243, .ref 244, .ref 245, .ref 246, .ref 247, .ref 248, .ref 249, .ref 250, .ref 251, .ref 252, .ref 253, .ref 254, .ref 255, .ref 256, .ref 257], vm := .none },
  { cls := 9, slots := #[.long (-128)], vm := .none },
  { cls := 9, slots := #[.long (-127)], vm := .none },
  { cls := 9, slots := #[.long (-126)], vm := .none },
  { cls := 9, slots := #[.long (-125)], vm := .none },
  { cls := 9, slots := #[.long (-124)], vm := .none },
  { cls := 9, slots := #[.long (-123)], vm := .none },
  { cls := 9, slots := #[.long (-122)], vm := .none },
  { cls := 9, slots := #[.long (-121)], vm := .none },
  { cls := 9, slots := #[.long (-120)], vm := .none },
  { cls := 9, slots := #[.long (-119)], vm := .none },
  { cls := 9, slots := #[.long (-118)], vm := .none },
  { cls := 9, slots := #[.long (-117)], vm := .none },
  { cls := 9, slots := #[.long (-116)], vm := .none },
  { cls := 9, slots := #[.long (-115)], vm := .none },
  { cls := 9, slots := #[.long (-114)], vm := .none },
  { cls := 9, slots := #[.long (-113)], vm := .none },
  { cls := 9, slots := #[.long (-112)], vm := .none },
  { cls := 9, slots := #[.long (-111)], vm := .none },
  { cls := 9, slots := #[.long (-110)], vm := .none },
  { cls := 9, slots := #[.long (-109)], vm := .none },
  { cls := 9, slots := #[.long (-108)], vm := .none },
  { cls := 9, slots := #[.long (-107)], vm := .none },
  { cls := 9, slots := #[.long (-106)], vm := .none },
  { cls := 9, slots := #[.long (-105)], vm := .none },
  { cls := 9, slots := #[.long (-104)], vm := .none },
  { cls := 9, slots := #[.long (-103)], vm := .none },
  { cls := 9, slots := #[.long (-102)], vm := .none },
  { cls := 9, slots := #[.long (-101)], vm := .none },
  { cls := 9, slots := #[.long (-100)], vm := .none },
  { cls := 9, slots := #[.long (-99)], vm := .none },
  { cls := 9, slots := #[.long (-98)], vm := .none },
  { cls := 9, slots := #[.long (-97)], vm := .none },
  { cls := 9, slots := #[.long (-96)], vm := .none },
  { cls := 9, slots := #[.long (-95)], vm := .none },
  { cls := 9, slots := #[.long (-94)], vm := .none },
  { cls := 9, slots := #[.long (-93)], vm := .none },
  { cls := 9, slots := #[.long (-92)], vm := .none },
  { cls := 9, slots := #[.long (-91)], vm := .none },
  { cls := 9, slots := #[.long (-90)], vm := .none },
  { cls := 9, slots := #[.long (-89)], vm := .none },
  { cls := 9, slots := #[.long (-88)], vm := .none },
  { cls := 9, slots := #[.long (-87)], vm := .none },
  { cls := 9, slots := #[.long (-86)], vm := .none },
  { cls := 9, slots := #[.long (-85)], vm := .none },
  { cls := 9, slots := #[.long (-84)], vm := .none },
  { cls := 9, slots := #[.long (-83)], vm := .none },
  { cls := 9, slots := #[.long (-82)], vm := .none },
  { cls := 9, slots := #[.long (-81)], vm := .none },
  { cls := 9, slots := #[.long (-80)], vm := .none },
  { cls := 9, slots := #[.long (-79)], vm := .none },
  { cls := 9, slots := #[.long (-78)], vm := .none },
  { cls := 9, slots := #[.long (-77)], vm := .none },
  { cls := 9, slots := #[.long (-76)], vm := .none },
  { cls := 9, slots := #[.long (-75)], vm := .none },
  { cls := 9, slots := #[.long (-74)], vm := .none },
  { cls := 9, slots := #[.long (-73)], vm := .none },
  { cls := 9, slots := #[.long (-72)], vm := .none },
  { cls := 9, slots := #[.long (-71)], vm := .none },
  { cls := 9, slots := #[.long (-70)], vm := .none },
  { cls := 9, slots := #[.long (-69)], vm := .none },
  { cls := 9, slots := #[.long (-68)], vm := .none },
  { cls := 9, slots := #[.long (-67)], vm := .none },
  { cls := 9, slots := #[.long (-66)], vm := .none },
  { cls := 9, slots := #[.long (-65)], vm := .none },
  { cls := 9, slots := #[.long (-64)], vm := .none },
  { cls := 9, slots := #[.long (-63)], vm := .none },
  { cls := 9, slots := #[.long (-62)], vm := .none },
  { cls := 9, slots := #[.long (-61)], vm := .none },
  { cls := 9, slots := #[.long (-60)], vm := .none },
  { cls := 9, slots := #[.long (-59)], vm := .none },
  { cls := 9, slots := #[.long (-58)], vm := .none },
  { cls := 9, slots := #[.long (-57)], vm := .none },
  { cls := 9, slots := #[.long (-56)], vm := .none },
  { cls := 9, slots := #[.long (-55)], vm := .none },
  { cls := 9, slots := #[.long (-54)], vm := .none },
  { cls := 9, slots := #[.long (-53)], vm := .none },
  { cls := 9, slots := #[.long (-52)], vm := .none },
  { cls := 9, slots := #[.long (-51)], vm := .none },
  { cls := 9, slots := #[.long (-50)], vm := .none },
  { cls := 9, slots := #[.long (-49)], vm := .none },
  { cls := 9, slots := #[.long (-48)], vm := .none },
  { cls := 9, slots := #[.long (-47)], vm := .none },
  { cls := 9, slots := #[.long (-46)], vm := .none },
  { cls := 9, slots := #[.long (-45)], vm := .none },
  { cls := 9, slots := #[.long (-44)], vm := .none },
  { cls := 9, slots := #[.long (-43)], vm := .none },
  { cls := 9, slots := #[.long (-42)], vm := .none },
  { cls := 9, slots := #[.long (-41)], vm := .none },
  { cls := 9, slots := #[.long (-40)], vm := .none },
  { cls := 9, slots := #[.long (-39)], vm := .none },
  { cls := 9, slots := #[.long (-38)], vm := .none },
  { cls := 9, slots := #[.long (-37)], vm := .none },
  { cls := 9, slots := #[.long (-36)], vm := .none },
  { cls := 9, slots := #[.long (-35)], vm := .none },
  { cls := 9, slots := #[.long (-34)], vm := .none },
  { cls := 9, slots := #[.long (-33)], vm := .none },
  { cls := 9, slots := #[.long (-32)], vm := .none },
  { cls := 9, slots := #[.long (-31)], vm := .none },
  { cls := 9, slots := #[.long (-30)], vm := .none },
  { cls := 9, slots := #[.long (-29)], vm := .none },
  { cls := 9, slots := #[.long (-28)], vm := .none },
  { cls := 9, slots := #[.long (-27)], vm := .none },
  { cls := 9, slots := #[.long (-26)], vm := .none },
  { cls := 9, slots := #[.long (-25)], vm := .none },
  { cls := 9, slots := #[.long (-24)], vm := .none },
  { cls := 9, slots := #[.long (-23)], vm := .none },
  { cls := 9, slots := #[.long (-22)], vm := .none },
  { cls := 9, slots := #[.long (-21)], vm := .none },
  { cls := 9, slots := #[.long (-20)], vm := .none },
  { cls := 9, slots := #[.long (-19)], vm := .none },
  { cls := 9, slots := #[.long (-18)], vm := .none },
  { cls := 9, slots := #[.long (-17)], vm := .none },
  { cls := 9, slots := #[.long (-16)], vm := .none },
  { cls := 9, slots := #[.long (-15)], vm := .none },
  { cls := 9, slots := #[.long (-14)], vm := .none },
  { cls := 9, slots := #[.long (-13)], vm := .none },
  { cls := 9, slots := #[.long (-12)], vm := .none },
  { cls := 9, slots := #[.long (-11)], vm := .none },
  { cls := 9, slots := #[.long (-10)], vm := .none },
  { cls := 9, slots := #[.long (-9)], vm := .none },
  { cls := 9, slots := #[.long (-8)], vm := .none },
  { cls := 9, slots := #[.long (-7)], vm := .none },
  { cls := 9, slots := #[.long (-6)], vm := .none },
  { cls := 9, slots := #[.long (-5)], vm := .none },
  { cls := 9, slots := #[.long (-4)], vm := .none },
  { cls := 9, slots := #[.long (-3)], vm := .none },
  { cls := 9, slots := #[.long (-2)], vm := .none },
  { cls := 9, slots := #[.long (-1)], vm := .none },
  { cls := 9, slots := #[.long (0)], vm := .none },
  { cls := 9, slots := #[.long (1)], vm := .none },
  { cls := 9, slots := #[.long (2)], vm := .none },
  { cls := 9, slots := #[.long (3)], vm := .none },
  { cls := 9, slots := #[.long (4)], vm := .none },
  { cls := 9, slots := #[.long (5)], vm := .none },
  { cls := 9, slots := #[.long (6)], vm := .none },
  { cls := 9, slots := #[.long (7)], vm := .none },
  { cls := 9, slots := #[.long (8)], vm := .none },
  { cls := 9, slots := #[.long (9)], vm := .none },
  { cls := 9, slots := #[.long (10)], vm := .none },
  { cls := 9, slots := #[.long (11)], vm := .none },
  { cls := 9, slots := #[.long (12)], vm := .none },
  { cls := 9, slots := #[.long (13)], vm := .none },
  { cls := 9, slots := #[.long (14)], vm := .none },
  { cls := 9, slots := #[.long (15)], vm := .none },
  { cls := 9, slots := #[.long (16)], vm := .none },
  { cls := 9, slots := #[.long (17)], vm := .none },
  { cls := 9, slots := #[.long (18)], vm := .none },
  { cls := 9, slots := #[.long (19)], vm := .none },
  { cls := 9, slots := #[.long (20)], vm := .none },
  { cls := 9, slots := #[.long (21)], vm := .none },
  { cls := 9, slots := #[.long (22)], vm := .none },
  { cls := 9, slots := #[.long (23)], vm := .none },
  { cls := 9, slots := #[.long (24)], vm := .none },
  { cls := 9, slots := #[.long (25)], vm := .none },
  { cls := 9, slots := #[.long (26)], vm := .none },
  { cls := 9, slots := #[.long (27)], vm := .none },
  { cls := 9, slots := #[.long (28)], vm := .none },
  { cls := 9, slots := #[.long (29)], vm := .none },
  { cls := 9, slots := #[.long (30)], vm := .none },
  { cls := 9, slots := #[.long (31)], vm := .none },
  { cls := 9, slots := #[.long (32)], vm := .none },
  { cls := 9, slots := #[.long (33)], vm := .none },
  { cls := 9, slots := #[.long (34)], vm := .none },
  { cls := 9, slots := #[.long (35)], vm := .none },
  { cls := 9, slots := #[.long (36)], vm := .none },
  { cls := 9, slots := #[.long (37)], vm := .none },
  { cls := 9, slots := #[.long (38)], vm := .none },
  { cls := 9, slots := #[.long (39)], vm := .none },
  { cls := 9, slots := #[.long (40)], vm := .none },
  { cls := 9, slots := #[.long (41)], vm := .none },
  { cls := 9, slots := #[.long (42)], vm := .none },
  { cls := 9, slots := #[.long (43)], vm := .none },
  { cls := 9, slots := #[.long (44)], vm := .none },
  { cls := 9, slots := #[.long (45)], vm := .none },
  { cls := 9, slots := #[.long (46)], vm := .none },
  { cls := 9, slots := #[.long (47)], vm := .none },
  { cls := 9, slots := #[.long (48)], vm := .none },
  { cls := 9, slots := #[.long (49)], vm := .none },
  { cls := 9, slots := #[.long (50)], vm := .none },
  { cls := 9, slots := #[.long (51)], vm := .none },
  { cls := 9, slots := #[.long (52)], vm := .none },
  { cls := 9, slots := #[.long (53)], vm := .none },
  { cls := 9, slots := #[.long (54)], vm := .none },
  { cls := 9, slots := #[.long (55)], vm := .none },
  { cls := 9, slots := #[.long (56)], vm := .none },
  { cls := 9, slots := #[.long (57)], vm := .none },
  { cls := 9, slots := #[.long (58)], vm := .none },
  { cls := 9, slots := #[.long (59)], vm := .none },
  { cls := 9, slots := #[.long (60)], vm := .none },
  { cls := 9, slots := #[.long (61)], vm := .none },
  { cls := 9, slots := #[.long (62)], vm := .none },
  { cls := 9, slots := #[.long (63)], vm := .none },
  { cls := 9, slots := #[.long (64)], vm := .none },
  { cls := 9, slots := #[.long (65)], vm := .none },
  { cls := 9, slots := #[.long (66)], vm := .none },
  { cls := 9, slots := #[.long (67)], vm := .none },
  { cls := 9, slots := #[.long (68)], vm := .none },
  { cls := 9, slots := #[.long (69)], vm := .none },
  { cls := 9, slots := #[.long (70)], vm := .none },
  { cls := 9, slots := #[.long (71)], vm := .none },
  { cls := 9, slots := #[.long (72)], vm := .none },
  { cls := 9, slots := #[.long (73)], vm := .none },
  { cls := 9, slots := #[.long (74)], vm := .none },
  { cls := 9, slots := #[.long (75)], vm := .none },
  { cls := 9, slots := #[.long (76)], vm := .none },
  { cls := 9, slots := #[.long (77)], vm := .none },
  { cls := 9, slots := #[.long (78)], vm := .none },
  { cls := 9, slots := #[.long (79)], vm := .none },
  { cls := 9, slots := #[.long (80)], vm := .none },
  { cls := 9, slots := #[.long (81)], vm := .none },
  { cls := 9, slots := #[.long (82)], vm := .none },
  { cls := 9, slots := #[.long (83)], vm := .none },
  { cls := 9, slots := #[.long (84)], vm := .none },
  { cls := 9, slots := #[.long (85)], vm := .none },
  { cls := 9, slots := #[.long (86)], vm := .none },
  { cls := 9, slots := #[.long (87)], vm := .none },
  { cls := 9, slots := #[.long (88)], vm := .none },
  { cls := 9, slots := #[.long (89)], vm := .none },
  { cls := 9, slots := #[.long (90)], vm := .none },
  { cls := 9, slots := #[.long (91)], vm := .none },
  { cls := 9, slots := #[.long (92)], vm := .none },
  { cls := 9, slots := #[.long (93)], vm := .none },
  { cls := 9, slots := #[.long (94)], vm := .none },
  { cls := 9, slots := #[.long (95)], vm := .none },
  { cls := 9, slots := #[.long (96)], vm := .none },
  { cls := 9, slots := #[.long (97)], vm := .none },
  { cls := 9, slots := #[.long (98)], vm := .none },
  { cls := 9, slots := #[.long (99)], vm := .none },
  { cls := 9, slots := #[.long (100)], vm := .none },
  { cls := 9, slots := #[.long (101)], vm := .none },
  { cls := 9, slots := #[.long (102)], vm := .none },
  { cls := 9, slots := #[.long (103)], vm := .none },
  { cls := 9, slots := #[.long (104)], vm := .none },
  { cls := 9, slots := #[.long (105)], vm := .none },
  { cls := 9, slots := #[.long (106)], vm := .none },
  { cls := 9, slots := #[.long (107)], vm := .none },
  { cls := 9, slots := #[.long (108)], vm := .none },
  { cls := 9, slots := #[.long (109)], vm := .none },
  { cls := 9, slots := #[.long (110)], vm := .none },
  { cls := 9, slots := #[.long (111)], vm := .none },
  { cls := 9, slots := #[.long (112)], vm := .none },
  { cls := 9, slots := #[.long (113)], vm := .none },
  { cls := 9, slots := #[.long (114)], vm := .none },
  { cls := 9, slots := #[.long (115)], vm := .none },
  { cls := 9, slots := #[.long (116)], vm := .none },
  { cls := 9, slots := #[.long (117)], vm := .none },
  { cls := 9, slots := #[.long (118)], vm := .none },
  { cls := 9, slots := #[.long (119)], vm := .none },
  { cls := 9, slots := #[.long (120)], vm := .none },
  { cls := 9, slots := #[.long (121)], vm := .none },
  { cls := 9, slots := #[.long (122)], vm := .none },
  { cls := 9, slots := #[.long (123)], vm := .none },
  { cls := 9, slots := #[.long (124)], vm := .none },
  { cls := 9, slots := #[.long (125)], vm := .none },
  { cls := 9, slots := #[.long (126)], vm := .none },
  { cls := 9, slots := #[.long (127)], vm := .none }]
def classes : Array Class := #[k0, k1, k2, k3, k4, k5, k6, k7, k8, k9, k10, k11, k12, k13, k14, k15, k16]
def interned : List (Array UInt16 × Addr) := []
def slotsUsed : Nat := 515
def theMethod : MethodId := ⟨1, 1⟩
def args0 : Array Value := #[.long 4, .long 9, .long 5, .long 6, .int 2]
def aboutOver (below : List Frame) : State where
  vm := { classes := classes, interned := interned.toArray }
  heap := heap
  slotsUsed := slotsUsed
  threads := #[{ frames := .invoking theMethod args0 :: below }]
def below0 : List Frame := [.native { method := ⟨0, 0⟩, args := #[] }]
def about1 : State := aboutOver below0
def p0 : Program := .bare "" "" ""
def e0 : Env := launch0.env 0 0 0
theorem w_frames : about1.frames = Frame.invoking theMethod args0 :: below0 := rfl
set_option maxRecDepth 65536 in
theorem w_args : argsFit about1.vm theMethod args0 = true := by decide +kernel
set_option maxRecDepth 65536 in
theorem w_heap : heapFits about1 = true := by decide +kernel
set_option maxRecDepth 65536 in
theorem w_runnable : about1.curStatus? = some .runnable := by decide +kernel
set_option maxRecDepth 65536 in
theorem w_alone : about1.alone = true := by decide +kernel
set_option maxRecDepth 65536 in
theorem w_named : about1.methodNamed? x = some theMethod := by decide +kernel
set_option maxRecDepth 65536 in
theorem w_hears : about1.hears theMethod below0 = true := by decide +kernel
set_option maxRecDepth 65536 in
theorem w_ripe : about1.ripe theMethod args0 below0 = true := by decide +kernel
theorem w_running : about1.status = .running := rfl
set_option maxRecDepth 65536 in
theorem w_room : about1.hasRoom e0.platform room_1 = true :=
  launch0.hasRoom_least _ room_1 (by decide +kernel) (by decide +kernel) (by decide +kernel) (by decide +kernel) (by decide +kernel) (by decide +kernel)
theorem allAtoms_all (ts : List Jvm.Cond) (a : Array Jvm.Value) (st : Jvm.State) : (allAtoms ts).before a st = ts.all (fun c => c.before a st) := by
  induction ts with
  | nil => rfl
  | cons c t ih =>
    show (Jvm.Cond.and c (allAtoms t)).before a st = _
    rw [Jvm.Cond.before_and, ih, List.all_cons]
def words1 : List Jvm.Cond := Jvm.Cond.code x code maxLocals ret :: tables_1
/-- a 'code' word, met by the world's own term for the bytes: nothing is compared byte by byte -/
theorem code_word {y : MethodName} {bytes : ByteArray} {mx : Nat} {rt : Option FieldType} {a : Array Value} {s : State} {m : MethodId} {meth : Method} {c : Code} (h1 : s.methodNamed? y = some m) (h2 : s.vm.method? m = some meth) (h3 : meth.code = some c) (h4 : c.code = bytes)
    (h5 : (c.maxLocals == mx && c.exceptionTable.isEmpty && decide (c.maxStack ≤ mostOperands) && decide (meth.sig.returnType = rt) && !meth.locks && decide (parseMethodDescriptor y.desc = some meth.sig)) = true) : (Jvm.Cond.code y bytes mx rt).before a s = true := by
  simp only [Bool.and_eq_true, beq_iff_eq, Bool.not_eq_true', decide_eq_true_eq] at h5
  obtain ⟨⟨⟨⟨⟨g1, g2⟩, g3⟩, g4⟩, g5⟩, g6⟩ := h5
  simp [Cond.before, Cond.holds, Cond.value, h1, h2, h3, h4, g1, g2, g3, g4, g5, g6]
def isCode : Jvm.Cond → Bool
  | .code _ _ _ _ => true
  | _ => false
theorem all_split {L : List Jvm.Cond} {P : Jvm.Cond → Bool} (h1 : L.all (fun c => isCode c || P c) = true) (h2 : ∀ c ∈ L.filter isCode, P c = true) : L.all P = true := by
  refine List.all_eq_true.mpr fun c hc => ?_
  have h := List.all_eq_true.mp h1 c hc
  rcases Bool.eq_false_or_eq_true (isCode c) with hi | hi
  · exact h2 c (List.mem_filter.mpr ⟨hc, hi⟩)
  · simpa [hi] using h
set_option maxRecDepth 65536 in
theorem w_c0 : (Jvm.Cond.code x code maxLocals ret).before args0 about1 = true := code_word (m := ⟨1, 1⟩) (meth := k1m1) (c := k1c1) (by decide +kernel) rfl rfl rfl (by decide +kernel)
set_option maxRecDepth 65536 in
theorem w_c1 : (Jvm.Cond.code ({ cls := "com/example/headmap/headmap/model/Extent", name := "<init>", desc := "(JJ)V" } : Jvm.MethodName) prog_17_method_1_code (5 : Nat) (Option.none : Option Jvm.ClassFile.FieldType)).before args0 about1 = true := code_word (m := ⟨3, 0⟩) (meth := k3m0) (c := k3c0) (by decide +kernel) rfl rfl rfl (by decide +kernel)
set_option maxRecDepth 65536 in
theorem w_c2 : (Jvm.Cond.code ({ cls := "java/lang/Record", name := "<init>", desc := "()V" } : Jvm.MethodName) jdk_30_method_1_code (1 : Nat) (Option.none : Option Jvm.ClassFile.FieldType)).before args0 about1 = true := code_word (m := ⟨2, 0⟩) (meth := k2m0) (c := k2c0) (by decide +kernel) rfl rfl rfl (by decide +kernel)
set_option maxRecDepth 65536 in
theorem w_c3 : (Jvm.Cond.code ({ cls := "java/lang/Object", name := "<init>", desc := "()V" } : Jvm.MethodName) object_method_1_code (1 : Nat) (Option.none : Option Jvm.ClassFile.FieldType)).before args0 about1 = true := code_word (m := ⟨0, 0⟩) (meth := k0m0) (c := k0c0) (by decide +kernel) rfl rfl rfl (by decide +kernel)
set_option maxRecDepth 65536 in
theorem w_c4 : (Jvm.Cond.code ({ cls := "java/lang/Long", name := "valueOf", desc := "(J)Ljava/lang/Long;" } : Jvm.MethodName) jdk_35_method_24_code (3 : Nat) (Option.some (Jvm.ClassFile.FieldType.object "java/lang/Long"))).before args0 about1 = true := code_word (m := ⟨9, 0⟩) (meth := k9m0) (c := k9c0) (by decide +kernel) rfl rfl rfl (by decide +kernel)
set_option maxRecDepth 65536 in
theorem w_c5 : (Jvm.Cond.code ({ cls := "com/example/headmap/headmap/model/Extent", name := "equals", desc := "(Ljava/lang/Object;)Z" } : Jvm.MethodName) prog_17_method_2_code (3 : Nat) (Option.some Jvm.ClassFile.FieldType.boolean)).before args0 about1 = true := code_word (m := ⟨3, 1⟩) (meth := k3m1) (c := k3c1) (by decide +kernel) rfl rfl rfl (by decide +kernel)
set_option maxRecDepth 65536 in
theorem w_c6 : (Jvm.Cond.code ({ cls := "java/lang/Long", name := "<init>", desc := "(J)V" } : Jvm.MethodName) jdk_35_method_26_code (3 : Nat) (Option.none : Option Jvm.ClassFile.FieldType)).before args0 about1 = true := code_word (m := ⟨9, 1⟩) (meth := k9m1) (c := k9c1) (by decide +kernel) rfl rfl rfl (by decide +kernel)
set_option maxRecDepth 65536 in
theorem w_c7 : (Jvm.Cond.code ({ cls := "java/lang/Number", name := "<init>", desc := "()V" } : Jvm.MethodName) jdk_18_method_1_code (1 : Nat) (Option.none : Option Jvm.ClassFile.FieldType)).before args0 about1 = true := code_word (m := ⟨5, 0⟩) (meth := k5m0) (c := k5c0) (by decide +kernel) rfl rfl rfl (by decide +kernel)
def codes1 : List Jvm.Cond := [Jvm.Cond.code x code maxLocals ret, Jvm.Cond.code ({ cls := "com/example/headmap/headmap/model/Extent", name := "<init>", desc := "(JJ)V" } : Jvm.MethodName) prog_17_method_1_code (5 : Nat) (Option.none : Option Jvm.ClassFile.FieldType), Jvm.Cond.code ({ cls := "java/lang/Record", name := "<init>", desc := "()V" } : Jvm.MethodName) jdk_30_method_1_code (1 : Nat) (Option.none : Option Jvm.ClassFile.FieldType), Jvm.Cond.code ({ cls := "java/lang/Object", name := "<init>", desc := "()V" } : Jvm.MethodName) object_method_1_code (1 : Nat) (Option.none : Option Jvm.ClassFile.FieldType), Jvm.Cond.code ({ cls := "java/lang/Long", name := "valueOf", desc := "(J)Ljava/lang/Long;" } : Jvm.MethodName) jdk_35_method_24_code (3 : Nat) (Option.some (Jvm.ClassFile.FieldType.object "java/lang/Long")), Jvm.Cond.code ({ cls := "com/example/headmap/headmap/model/Extent", name := "equals", desc := "(Ljava/lang/Object;)Z" } : Jvm.MethodName) prog_17_method_2_code (3 : Nat) (Option.some Jvm.ClassFile.FieldType.boolean), Jvm.Cond.code ({ cls := "java/lang/Long", name := "<init>", desc := "(J)V" } : Jvm.MethodName) jdk_35_method_26_code (3 : Nat) (Option.none : Option Jvm.ClassFile.FieldType), Jvm.Cond.code ({ cls := "java/lang/Number", name := "<init>", desc := "()V" } : Jvm.MethodName) jdk_18_method_1_code (1 : Nat) (Option.none : Option Jvm.ClassFile.FieldType)]
set_option maxRecDepth 65536 in
theorem codes_eq : words1.filter isCode = codes1 := rfl
theorem w_codes : ∀ c ∈ words1.filter isCode, c.before args0 about1 = true := by
  rw [codes_eq]
  intro c hc
  simp only [codes1, List.mem_cons, List.not_mem_nil, or_false] at hc
  rcases hc with rfl | rfl | rfl | rfl | rfl | rfl | rfl | rfl
  · exact w_c0
  · exact w_c1
  · exact w_c2
  · exact w_c3
  · exact w_c4
  · exact w_c5
  · exact w_c6
  · exact w_c7
set_option maxRecDepth 65536 in
theorem w_t1 : (words1.take 24).all (fun c => isCode c || c.before args0 about1) = true := by decide +kernel
set_option maxRecDepth 65536 in
theorem w_t2 : ((words1.drop 24).take 24).all (fun c => isCode c || c.before args0 about1) = true := by decide +kernel
set_option maxRecDepth 65536 in
theorem w_t3 : ((words1.drop 24).drop 24).all (fun c => isCode c || c.before args0 about1) = true := by decide +kernel
theorem w_tables : (allAtoms (Jvm.Cond.code x code maxLocals ret :: tables_1)).before args0 about1 = true := by
  rw [allAtoms_all]
  show words1.all (fun c => c.before args0 about1) = true
  refine all_split ?_ w_codes
  rw [← List.take_append_drop 24 words1, List.all_append, w_t1, ← List.take_append_drop 24 (words1.drop 24), List.all_append, w_t2, w_t3]
  rfl
set_option maxRecDepth 65536 in
theorem w_rest : rest_1_c.before args0 about1 = true := by decide +kernel
set_option maxRecDepth 65536 in
theorem w_case : (Jvm.Cond.and given_1 narrow_1).before args0 about1 = true := by decide +kernel
theorem w_applies : (headSpec (Jvm.Cond.code x code maxLocals ret :: tables_1) room_1).applies x e0.platform about1 = true :=
  (Spec.applies_iff w_frames).mpr ⟨w_running, w_runnable, w_alone, w_named, w_hears, w_ripe, w_room, w_tables⟩
theorem atStart : AtStart classFile x code maxLocals ret World_1 tables_1 room_1 Calls_1 rest_1 Pre_1 launch0 p0 e0 about1 theMethod args0 below0 :=
  ⟨lists_1, trivial, launch0.admits_env _ _ _, launch0.least_env, fairChoices_fair.cas, fairChoices_fair.clock, w_frames, w_args, w_heap, w_applies, trivial, w_rest, w_case⟩
end start1
theorem witness_1 : WitnessClaimed_1 := ⟨start1.p0, start1.e0, start1.about1, start1.theMethod, start1.args0, start1.below0, start1.atStart⟩
end Jvm.Pilot.@@N@@
