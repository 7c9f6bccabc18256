import JvmDerived
import JvmDerived.Pilot.@@N@@Statement
import JvmDerived.Pilot.@@N@@Code
set_option linter.unusedVariables false
set_option linter.unusedSimpArgs false
namespace Jvm.Pilot.@@N@@
open Jvm Jvm.ClassFile Sem Op Lib Jvm.Free Jvm.Stand Jvm.LawKit Jvm.RoadKit Bundle Jvm.Pilot.@@N@@.Jvm.D
namespace Pl
section Own
theorem cut {P G : Prop} (f : P → G) (g : P) : G := f g
theorem ha_ge {h0 h : Heap} {a : Addr} (q : h0.size ≤ h.size) (e : a = h.size) : h0.size ≤ a := by rw [e]; exact q
/-- what stands fixed in one invocation's walk -/
abbrev Ev : Type := Program × Launch × Env × Room × State × MethodId × Array Value × List Frame × Method × Code × Nat × (Option Value → Heap → Prop)
def Dc (bytes : ByteArray) (pc : Nat) (i : Instr) (len pc' : Nat) : Prop := decode bytes pc = .ok (i, len) ∧ pc + len = pc'
def Db (bytes : ByteArray) (pc : Nat) (i : Instr) (o : Int) (pc1 pc2 : Nat) : Prop := decode bytes pc = .ok (i, 3) ∧ pc + 3 = pc1 ∧ 0 ≤ (pc : Int) + o ∧ ((pc : Int) + o).toNat = pc2
/-- from this heap, these counts, pc, locals and stack the invocation comes to a return of which its Q holds -/
def Wk : Ev → Heap → Nat → Nat → Nat → Array Slot → List Value → Prop
  | (p, l, e, R, s, m, args, below, meth, c, n0, Q), h, kc, kn, pc, ls, st => ∀ (T : State) (locs : List Loc), Stand p l e R s m args below meth c T locs kc kn → T.heap = h → Fr n0 locs →
    ∃ s₂ o, Steps p.tables e below (T.setTop (mkF m pc ls st)) s₂ ∧ s₂.status = .running ∧ Ended s₂ below o ∧ ∃ v L, o = .returned v ∧ (Q v s₂.heap ∧ Fr n0 L) ∧ FrameEnd s o s₂ L R.cells R.slots
def Kf (p : Program) (s : State) (m : MethodId) (meth : Method) (c : Code) (y : MethodName) (bytes : ByteArray) (ml : Nat) (rt : Option FieldType) (Z : State) (n0 : Nat) : Prop :=
  p.tables.exec = Jvm.exec ∧ c.code = bytes ∧ c.maxLocals = ml ∧ meth.sig.returnType = rt ∧ meth.locks = false ∧ Z.Warmed39 s.vm ∧ s.vm.findClass y.cls = some m.cls ∧ meth.name = y.name ∧ n0 ≤ s.heap.size
def Kx (E : Ev) (y : MethodName) (bytes : ByteArray) (ml : Nat) (rt : Option FieldType) (l : Launch) (Z : State) (R : Room) (n0 : Nat) (Q : Option Value → Heap → Prop) : Prop :=
  ∃ p e s m args below meth c, E = (p, l, e, R, s, m, args, below, meth, c, n0, Q) ∧ Kf p s m meth c y bytes ml rt Z n0
/-- a callee's contract at one heap and one row of arguments -/
def Con (l : Launch) (Z : State) (y : MethodName) (bytes : ByteArray) (ml : Nat) (rt : Option FieldType) (rm : Room) (as : Array Value) (h : Heap) (n0 : Nat) (Q : Option Value → Heap → Prop) : Prop :=
  n0 ≤ h.size → ∀ ws : List Jvm.Cond, MetFree l y (head1 (Jvm.Cond.code y bytes ml rt :: ws) rm) (fun a U => a = as ∧ Z.Warmed39 U.vm ∧ U.heap = h) (fun _ _ _ _ _ => True) (fun _ U o U' => ∃ v L, o = .returned v ∧ (Q v U'.heap ∧ Fr n0 L) ∧ FrameEnd U o U' L rm.cells rm.slots)
variable {E : Ev} {y : MethodName} {bytes : ByteArray} {ml : Nat} {rt : Option FieldType} {l : Launch} {Z : State} {R : Room} {n0 : Nat} {Q : Option Value → Heap → Prop} {a0 : Array Value} {h h' : Heap} {kc kn kc' kn' pc pc' pc1 pc2 : Nat} {ls ls' : Array Slot} {st : List Value} {a b : Addr}
theorem Con.of (pn : plainFor y = true) {as : Array Value} {rm : Room} (ef : ∀ m, entryFrame m as ml = mkF m 0 ls []) (body : ∀ E : Ev, Kx E y bytes ml rt l Z rm n0 Q → Wk E h 0 0 0 ls []) : Con l Z y bytes ml rt rm as h n0 Q := by
  intro hn ws
  refine MetFree.of_bodySF pn hisR ?_
  intro p e s m args below meth c s₁ Bd hml0 hP hK
  obtain ⟨ha, hZ, hh⟩ := hP
  subst ha
  have X0 : Stand p l e rm s m args below meth c s₁ [] 0 0 := Stand.of_body Bd
  have e0 : s₁.heap = h := by rw [← hh, Bd.state]; rfl
  obtain ⟨s₂, o, q, r⟩ := body (p, l, e, rm, s, m, args, below, meth, c, n0, Q) ⟨p, e, s, m, args, below, meth, c, rfl, Bd.exec, Bd.bytes, hml0, Bd.returns, Bd.notSynchronized, hZ, findClass_of_methodNamed Bd.named, (name_of_methodNamed Bd.named Bd.method).1, by rw [hh]; exact hn⟩ s₁ [] X0 e0 (Fr.nil n0)
  exact ⟨s₂, o, castTop (ef m) q, r⟩
theorem Kx.lift {st' : List Value} (K : Kx E y bytes ml rt l Z R n0 Q) (f : ∀ (p : Program) (e : Env) (s : State) (m : MethodId) (args : Array Value) (below : List Frame) (meth : Method) (c : Code), Kf p s m meth c y bytes ml rt Z n0 → ∀ (T : State) (locs : List Loc), Stand p l e R s m args below meth c T locs kc kn → T.heap = h → ∀ t, Steps p.tables e below (T.setTop (mkF m pc' ls' st)) t → Steps p.tables e below (T.setTop (mkF m pc ls st')) t) (k : Wk E h kc kn pc' ls' st) : Wk E h kc kn pc ls st' := by
  obtain ⟨p, e, s, m, args, below, meth, c, rfl, F⟩ := K
  intro T locs X eT N
  obtain ⟨s₂, o, q, r⟩ := k T locs X eT N
  exact ⟨s₂, o, f p e s m args below meth c F T locs X eT s₂ q, r⟩
theorem Kx.move (K : Kx E y bytes ml rt l Z R n0 Q) (f : ∀ (p : Program) (e : Env) (s : State) (m : MethodId) (args : Array Value) (below : List Frame) (meth : Method) (c : Code), Kf p s m meth c y bytes ml rt Z n0 → ∀ (T : State) (locs : List Loc), Stand p l e R s m args below meth c T locs kc kn → T.heap = h → Fr n0 locs →
    ∃ (T' : State) (locs' : List Loc) (h' : Heap) (kc' kn' pc' : Nat) (ls' : Array Slot) (st' : List Value), Stand p l e R s m args below meth c T' locs' kc' kn' ∧ T'.heap = h' ∧ Fr n0 locs' ∧ h.size ≤ h'.size ∧ Wk E h' kc' kn' pc' ls' st' ∧ ∀ t, Steps p.tables e below (T'.setTop (mkF m pc' ls' st')) t → Steps p.tables e below (T.setTop (mkF m pc ls st)) t) : Wk E h kc kn pc ls st := by
  obtain ⟨p, e, s, m, args, below, meth, c, rfl, F⟩ := K
  intro T locs X eT N
  obtain ⟨T', locs', h', kc', kn', pc', ls', st', X', e', N', -, k, q'⟩ := f p e s m args below meth c F T locs X eT N
  obtain ⟨s₂, o, q, r⟩ := k T' locs' X' e' N'
  exact ⟨s₂, o, q' _ q, r⟩

theorem Kx.aloadN (K : Kx E y bytes ml rt l Z R n0 Q) {k : Fin 4} {v : Value} (hd : Dc bytes pc (.aload_n k) 1 pc') (hl : ls[k.val]? = some (.val v)) (hv : v.isRef = true) (k : Wk E h kc kn pc' ls (v :: st)) : Wk E h kc kn pc ls st := by
  obtain ⟨hd, rfl⟩ := hd
  exact K.lift (fun p e s m args below meth c F T locs X eT t q => XS.aloadN X.here F.1 rfl (hb F.2.1 hd) hl hv q) k
theorem Kx.iloadN (K : Kx E y bytes ml rt l Z R n0 Q) {k : Fin 4} {v : Int32} (hd : Dc bytes pc (.iload_n k) 1 pc') (hl : ls[k.val]? = some (.val (.int v))) (k : Wk E h kc kn pc' ls (.int v :: st)) : Wk E h kc kn pc ls st := by
  obtain ⟨hd, rfl⟩ := hd
  exact K.lift (fun p e s m args below meth c F T locs X eT t q => XS.iloadN X.here F.1 rfl (hb F.2.1 hd) hl q) k
theorem Kx.lloadN (K : Kx E y bytes ml rt l Z R n0 Q) {k : Fin 4} {v : Int64} (hd : Dc bytes pc (.lload_n k) 1 pc') (hl : ls[k.val]? = some (.val (.long v))) (k : Wk E h kc kn pc' ls (.long v :: st)) : Wk E h kc kn pc ls st := by
  obtain ⟨hd, rfl⟩ := hd
  exact K.lift (fun p e s m args below meth c F T locs X eT t q => XS.lloadN X.here F.1 rfl (hb F.2.1 hd) hl q) k
theorem Kx.istoreN (K : Kx E y bytes ml rt l Z R n0 Q) {k : Fin 4} {x : Int32} (ls' : Array Slot) (hd : Dc bytes pc (.istore_n k) 1 pc') (hl : storeLocals ls k.val (.int x) = some ls') (k : Wk E h kc kn pc' ls' st) : Wk E h kc kn pc ls (.int x :: st) := by
  obtain ⟨hd, rfl⟩ := hd
  exact K.lift (fun p e s m args below meth c F T locs X eT t q => XS.istoreN X.here F.1 rfl (hb F.2.1 hd) rfl hl q) k
theorem Kx.lstoreN (K : Kx E y bytes ml rt l Z R n0 Q) {k : Fin 4} {x : Int64} (ls' : Array Slot) (hd : Dc bytes pc (.lstore_n k) 1 pc') (hl : storeLocals ls k.val (.long x) = some ls') (k : Wk E h kc kn pc' ls' st) : Wk E h kc kn pc ls (.long x :: st) := by
  obtain ⟨hd, rfl⟩ := hd
  exact K.lift (fun p e s m args below meth c F T locs X eT t q => XS.lstoreN X.here F.1 rfl (hb F.2.1 hd) rfl hl q) k
theorem Kx.astoreN (K : Kx E y bytes ml rt l Z R n0 Q) {k : Fin 4} {x : Value} (ls' : Array Slot) (hd : Dc bytes pc (.astore_n k) 1 pc') (hv : x.isRef = true) (hl : storeLocals ls k.val x = some ls') (k : Wk E h kc kn pc' ls' st) : Wk E h kc kn pc ls (x :: st) := by
  obtain ⟨hd, rfl⟩ := hd
  exact K.lift (fun p e s m args below meth c F T locs X eT t q => XS.astoreN X.here F.1 rfl (hb F.2.1 hd) rfl hv hl q) k
theorem Kx.aload (K : Kx E y bytes ml rt l Z R n0 Q) {k : Nat} {v : Value} (hd : Dc bytes pc (.aload k) 2 pc') (hl : ls[k]? = some (.val v)) (hv : v.isRef = true) (k : Wk E h kc kn pc' ls (v :: st)) : Wk E h kc kn pc ls st := by
  obtain ⟨hd, rfl⟩ := hd
  exact K.lift (fun p e s m args below meth c F T locs X eT t q => XS.aload X.here F.1 rfl (hb F.2.1 hd) hl hv q) k
theorem Kx.iload (K : Kx E y bytes ml rt l Z R n0 Q) {k : Nat} {v : Int32} (hd : Dc bytes pc (.iload k) 2 pc') (hl : ls[k]? = some (.val (.int v))) (k : Wk E h kc kn pc' ls (.int v :: st)) : Wk E h kc kn pc ls st := by
  obtain ⟨hd, rfl⟩ := hd
  exact K.lift (fun p e s m args below meth c F T locs X eT t q => XS.iload X.here F.1 rfl (hb F.2.1 hd) hl q) k
theorem Kx.lload (K : Kx E y bytes ml rt l Z R n0 Q) {k : Nat} {v : Int64} (hd : Dc bytes pc (.lload k) 2 pc') (hl : ls[k]? = some (.val (.long v))) (k : Wk E h kc kn pc' ls (.long v :: st)) : Wk E h kc kn pc ls st := by
  obtain ⟨hd, rfl⟩ := hd
  exact K.lift (fun p e s m args below meth c F T locs X eT t q => XS.lload X.here F.1 rfl (hb F.2.1 hd) hl q) k
theorem Kx.istore (K : Kx E y bytes ml rt l Z R n0 Q) {k : Nat} {x : Int32} (ls' : Array Slot) (hd : Dc bytes pc (.istore k) 2 pc') (hl : storeLocals ls k (.int x) = some ls') (k : Wk E h kc kn pc' ls' st) : Wk E h kc kn pc ls (.int x :: st) := by
  obtain ⟨hd, rfl⟩ := hd
  exact K.lift (fun p e s m args below meth c F T locs X eT t q => XS.istore X.here F.1 rfl (hb F.2.1 hd) rfl hl q) k
theorem Kx.lstore (K : Kx E y bytes ml rt l Z R n0 Q) {k : Nat} {x : Int64} (ls' : Array Slot) (hd : Dc bytes pc (.lstore k) 2 pc') (hl : storeLocals ls k (.long x) = some ls') (k : Wk E h kc kn pc' ls' st) : Wk E h kc kn pc ls (.long x :: st) := by
  obtain ⟨hd, rfl⟩ := hd
  exact K.lift (fun p e s m args below meth c F T locs X eT t q => XS.lstore X.here F.1 rfl (hb F.2.1 hd) rfl hl q) k
theorem Kx.astore (K : Kx E y bytes ml rt l Z R n0 Q) {k : Nat} {x : Value} (ls' : Array Slot) (hd : Dc bytes pc (.astore k) 2 pc') (hv : x.isRef = true) (hl : storeLocals ls k x = some ls') (k : Wk E h kc kn pc' ls' st) : Wk E h kc kn pc ls (x :: st) := by
  obtain ⟨hd, rfl⟩ := hd
  exact K.lift (fun p e s m args below meth c F T locs X eT t q => XS.astore X.here F.1 rfl (hb F.2.1 hd) rfl hv hl q) k
theorem Kx.iinc (K : Kx E y bytes ml rt l Z R n0 Q) {k : Nat} {cst : Int} {x : Int32} (z : Int32) (ls' : Array Slot) (hd : Dc bytes pc (.iinc k cst) 3 pc') (hl : ls[k]? = some (.val (.int x))) (hz : x + Int32.ofInt cst = z) (hl' : storeLocals ls k (.int z) = some ls') (k : Wk E h kc kn pc' ls' st) : Wk E h kc kn pc ls st := by
  obtain ⟨hd, rfl⟩ := hd
  exact K.lift (fun p e s m args below meth c F T locs X eT t q => XS.iinc X.here F.1 rfl (hb F.2.1 hd) hl (by rw [hz]; exact hl') q) k
theorem Kx.iconst (K : Kx E y bytes ml rt l Z R n0 Q) {i : Int} (z : Int32) (hd : Dc bytes pc (.iconst i) 1 pc') (hz : Int32.ofInt i = z) (k : Wk E h kc kn pc' ls (.int z :: st)) : Wk E h kc kn pc ls st := by
  obtain ⟨hd, rfl⟩ := hd
  exact K.lift (fun p e s m args below meth c F T locs X eT t q => XS.iconst X.here F.1 rfl (hb F.2.1 hd) (by rw [hz]; exact q)) k
theorem Kx.lconst (K : Kx E y bytes ml rt l Z R n0 Q) {i : Fin 2} (z : Int64) (hd : Dc bytes pc (.lconst i) 1 pc') (hz : Int64.ofNat i = z) (k : Wk E h kc kn pc' ls (.long z :: st)) : Wk E h kc kn pc ls st := by
  obtain ⟨hd, rfl⟩ := hd
  exact K.lift (fun p e s m args below meth c F T locs X eT t q => XS.lconst X.here F.1 rfl (hb F.2.1 hd) (by rw [hz]; exact q)) k
theorem Kx.bipush (K : Kx E y bytes ml rt l Z R n0 Q) {i : Int} (z : Int32) (hd : Dc bytes pc (.bipush i) 2 pc') (hz : (Int8.ofInt i).toInt32 = z) (k : Wk E h kc kn pc' ls (.int z :: st)) : Wk E h kc kn pc ls st := by
  obtain ⟨hd, rfl⟩ := hd
  exact K.lift (fun p e s m args below meth c F T locs X eT t q => XS.bipush X.here F.1 rfl (hb F.2.1 hd) (by rw [hz]; exact q)) k
theorem Kx.sipush (K : Kx E y bytes ml rt l Z R n0 Q) {i : Int} (z : Int32) (hd : Dc bytes pc (.sipush i) 3 pc') (hz : (Int16.ofInt i).toInt32 = z) (k : Wk E h kc kn pc' ls (.int z :: st)) : Wk E h kc kn pc ls st := by
  obtain ⟨hd, rfl⟩ := hd
  exact K.lift (fun p e s m args below meth c F T locs X eT t q => XS.sipush X.here F.1 rfl (hb F.2.1 hd) (by rw [hz]; exact q)) k
theorem Kx.aconst_null (K : Kx E y bytes ml rt l Z R n0 Q)  (hd : Dc bytes pc .aconst_null 1 pc') (k : Wk E h kc kn pc' ls (.null :: st)) : Wk E h kc kn pc ls st := by
  obtain ⟨hd, rfl⟩ := hd
  exact K.lift (fun p e s m args below meth c F T locs X eT t q => XS.aconstNull X.here F.1 rfl (hb F.2.1 hd) q) k
theorem Kx.iadd (K : Kx E y bytes ml rt l Z R n0 Q) {x y' : Int32} (hd : Dc bytes pc .iadd 1 pc') (k : Wk E h kc kn pc' ls (.int (x + y') :: st)) : Wk E h kc kn pc ls (.int y' :: .int x :: st) := by
  obtain ⟨hd, rfl⟩ := hd
  exact K.lift (fun p e s m args below meth c F T locs X eT t q => XS.iadd X.here F.1 rfl (hb F.2.1 hd) rfl q) k
theorem Kx.isub (K : Kx E y bytes ml rt l Z R n0 Q) {x y' : Int32} (hd : Dc bytes pc .isub 1 pc') (k : Wk E h kc kn pc' ls (.int (x - y') :: st)) : Wk E h kc kn pc ls (.int y' :: .int x :: st) := by
  obtain ⟨hd, rfl⟩ := hd
  exact K.lift (fun p e s m args below meth c F T locs X eT t q => XS.isub X.here F.1 rfl (hb F.2.1 hd) rfl q) k
theorem Kx.imul (K : Kx E y bytes ml rt l Z R n0 Q) {x y' : Int32} (hd : Dc bytes pc .imul 1 pc') (k : Wk E h kc kn pc' ls (.int (x * y') :: st)) : Wk E h kc kn pc ls (.int y' :: .int x :: st) := by
  obtain ⟨hd, rfl⟩ := hd
  exact K.lift (fun p e s m args below meth c F T locs X eT t q => XS.imul X.here F.1 rfl (hb F.2.1 hd) rfl q) k
theorem Kx.iand (K : Kx E y bytes ml rt l Z R n0 Q) {x y' : Int32} (hd : Dc bytes pc .iand 1 pc') (k : Wk E h kc kn pc' ls (.int (x &&& y') :: st)) : Wk E h kc kn pc ls (.int y' :: .int x :: st) := by
  obtain ⟨hd, rfl⟩ := hd
  exact K.lift (fun p e s m args below meth c F T locs X eT t q => XS.iand X.here F.1 rfl (hb F.2.1 hd) rfl q) k
theorem Kx.ior (K : Kx E y bytes ml rt l Z R n0 Q) {x y' : Int32} (hd : Dc bytes pc .ior 1 pc') (k : Wk E h kc kn pc' ls (.int (x ||| y') :: st)) : Wk E h kc kn pc ls (.int y' :: .int x :: st) := by
  obtain ⟨hd, rfl⟩ := hd
  exact K.lift (fun p e s m args below meth c F T locs X eT t q => XS.ior X.here F.1 rfl (hb F.2.1 hd) rfl q) k
theorem Kx.ixor (K : Kx E y bytes ml rt l Z R n0 Q) {x y' : Int32} (hd : Dc bytes pc .ixor 1 pc') (k : Wk E h kc kn pc' ls (.int (x ^^^ y') :: st)) : Wk E h kc kn pc ls (.int y' :: .int x :: st) := by
  obtain ⟨hd, rfl⟩ := hd
  exact K.lift (fun p e s m args below meth c F T locs X eT t q => XS.ixor X.here F.1 rfl (hb F.2.1 hd) rfl q) k
theorem Kx.ishl (K : Kx E y bytes ml rt l Z R n0 Q) {x y' : Int32} (hd : Dc bytes pc .ishl 1 pc') (k : Wk E h kc kn pc' ls (.int (x <<< (y' &&& 31)) :: st)) : Wk E h kc kn pc ls (.int y' :: .int x :: st) := by
  obtain ⟨hd, rfl⟩ := hd
  exact K.lift (fun p e s m args below meth c F T locs X eT t q => XS.ishl X.here F.1 rfl (hb F.2.1 hd) rfl q) k
theorem Kx.ishr (K : Kx E y bytes ml rt l Z R n0 Q) {x y' : Int32} (hd : Dc bytes pc .ishr 1 pc') (k : Wk E h kc kn pc' ls (.int (x >>> (y' &&& 31)) :: st)) : Wk E h kc kn pc ls (.int y' :: .int x :: st) := by
  obtain ⟨hd, rfl⟩ := hd
  exact K.lift (fun p e s m args below meth c F T locs X eT t q => XS.ishr X.here F.1 rfl (hb F.2.1 hd) rfl q) k
theorem Kx.iushr (K : Kx E y bytes ml rt l Z R n0 Q) {x y' : Int32} (hd : Dc bytes pc .iushr 1 pc') (k : Wk E h kc kn pc' ls (.int ((x.toUInt32 >>> (y' &&& 31).toUInt32).toInt32) :: st)) : Wk E h kc kn pc ls (.int y' :: .int x :: st) := by
  obtain ⟨hd, rfl⟩ := hd
  exact K.lift (fun p e s m args below meth c F T locs X eT t q => XS.iushr X.here F.1 rfl (hb F.2.1 hd) rfl q) k
theorem Kx.ladd (K : Kx E y bytes ml rt l Z R n0 Q) {x y' : Int64} (hd : Dc bytes pc .ladd 1 pc') (k : Wk E h kc kn pc' ls (.long (x + y') :: st)) : Wk E h kc kn pc ls (.long y' :: .long x :: st) := by
  obtain ⟨hd, rfl⟩ := hd
  exact K.lift (fun p e s m args below meth c F T locs X eT t q => XS.ladd X.here F.1 rfl (hb F.2.1 hd) rfl q) k
theorem Kx.lsub (K : Kx E y bytes ml rt l Z R n0 Q) {x y' : Int64} (hd : Dc bytes pc .lsub 1 pc') (k : Wk E h kc kn pc' ls (.long (x - y') :: st)) : Wk E h kc kn pc ls (.long y' :: .long x :: st) := by
  obtain ⟨hd, rfl⟩ := hd
  exact K.lift (fun p e s m args below meth c F T locs X eT t q => XS.lsub X.here F.1 rfl (hb F.2.1 hd) rfl q) k
theorem Kx.lmul (K : Kx E y bytes ml rt l Z R n0 Q) {x y' : Int64} (hd : Dc bytes pc .lmul 1 pc') (k : Wk E h kc kn pc' ls (.long (x * y') :: st)) : Wk E h kc kn pc ls (.long y' :: .long x :: st) := by
  obtain ⟨hd, rfl⟩ := hd
  exact K.lift (fun p e s m args below meth c F T locs X eT t q => XS.lmul X.here F.1 rfl (hb F.2.1 hd) rfl q) k
theorem Kx.land (K : Kx E y bytes ml rt l Z R n0 Q) {x y' : Int64} (hd : Dc bytes pc .land 1 pc') (k : Wk E h kc kn pc' ls (.long (x &&& y') :: st)) : Wk E h kc kn pc ls (.long y' :: .long x :: st) := by
  obtain ⟨hd, rfl⟩ := hd
  exact K.lift (fun p e s m args below meth c F T locs X eT t q => XS.land X.here F.1 rfl (hb F.2.1 hd) rfl q) k
theorem Kx.lor (K : Kx E y bytes ml rt l Z R n0 Q) {x y' : Int64} (hd : Dc bytes pc .lor 1 pc') (k : Wk E h kc kn pc' ls (.long (x ||| y') :: st)) : Wk E h kc kn pc ls (.long y' :: .long x :: st) := by
  obtain ⟨hd, rfl⟩ := hd
  exact K.lift (fun p e s m args below meth c F T locs X eT t q => XS.lor X.here F.1 rfl (hb F.2.1 hd) rfl q) k
theorem Kx.lxor (K : Kx E y bytes ml rt l Z R n0 Q) {x y' : Int64} (hd : Dc bytes pc .lxor 1 pc') (k : Wk E h kc kn pc' ls (.long (x ^^^ y') :: st)) : Wk E h kc kn pc ls (.long y' :: .long x :: st) := by
  obtain ⟨hd, rfl⟩ := hd
  exact K.lift (fun p e s m args below meth c F T locs X eT t q => XS.lxor X.here F.1 rfl (hb F.2.1 hd) rfl q) k
theorem Kx.lshl (K : Kx E y bytes ml rt l Z R n0 Q) {x : Int64} {y' : Int32} (hd : Dc bytes pc .lshl 1 pc') (k : Wk E h kc kn pc' ls (.long (x <<< (y' &&& 63).toInt64) :: st)) : Wk E h kc kn pc ls (.int y' :: .long x :: st) := by
  obtain ⟨hd, rfl⟩ := hd
  exact K.lift (fun p e s m args below meth c F T locs X eT t q => XS.lshl X.here F.1 rfl (hb F.2.1 hd) rfl q) k
theorem Kx.lshr (K : Kx E y bytes ml rt l Z R n0 Q) {x : Int64} {y' : Int32} (hd : Dc bytes pc .lshr 1 pc') (k : Wk E h kc kn pc' ls (.long (x >>> (y' &&& 63).toInt64) :: st)) : Wk E h kc kn pc ls (.int y' :: .long x :: st) := by
  obtain ⟨hd, rfl⟩ := hd
  exact K.lift (fun p e s m args below meth c F T locs X eT t q => XS.lshr X.here F.1 rfl (hb F.2.1 hd) rfl q) k
theorem Kx.lushr (K : Kx E y bytes ml rt l Z R n0 Q) {x : Int64} {y' : Int32} (hd : Dc bytes pc .lushr 1 pc') (k : Wk E h kc kn pc' ls (.long ((x.toUInt64 >>> (y' &&& 63).toInt64.toUInt64).toInt64) :: st)) : Wk E h kc kn pc ls (.int y' :: .long x :: st) := by
  obtain ⟨hd, rfl⟩ := hd
  exact K.lift (fun p e s m args below meth c F T locs X eT t q => XS.lushr X.here F.1 rfl (hb F.2.1 hd) rfl q) k
theorem Kx.idiv (K : Kx E y bytes ml rt l Z R n0 Q) {x y' : Int32} (hd : Dc bytes pc .idiv 1 pc') (hy : y' ≠ 0) (k : Wk E h kc kn pc' ls (.int (x / y') :: st)) : Wk E h kc kn pc ls (.int y' :: .int x :: st) := by
  obtain ⟨hd, rfl⟩ := hd
  exact K.lift (fun p e s m args below meth c F T locs X eT t q => XS.idiv X.here F.1 rfl (hb F.2.1 hd) rfl hy q) k
theorem Kx.irem (K : Kx E y bytes ml rt l Z R n0 Q) {x y' : Int32} (hd : Dc bytes pc .irem 1 pc') (hy : y' ≠ 0) (k : Wk E h kc kn pc' ls (.int (x % y') :: st)) : Wk E h kc kn pc ls (.int y' :: .int x :: st) := by
  obtain ⟨hd, rfl⟩ := hd
  exact K.lift (fun p e s m args below meth c F T locs X eT t q => RoadKit.iremM X F.1 rfl (hb F.2.1 hd) rfl hy q) k
theorem Kx.ldiv (K : Kx E y bytes ml rt l Z R n0 Q) {x y' : Int64} (hd : Dc bytes pc .ldiv 1 pc') (hy : y' ≠ 0) (k : Wk E h kc kn pc' ls (.long (x / y') :: st)) : Wk E h kc kn pc ls (.long y' :: .long x :: st) := by
  obtain ⟨hd, rfl⟩ := hd
  exact K.lift (fun p e s m args below meth c F T locs X eT t q => XS.ldiv X.here F.1 rfl (hb F.2.1 hd) rfl hy q) k
theorem Kx.lrem (K : Kx E y bytes ml rt l Z R n0 Q) {x y' : Int64} (hd : Dc bytes pc .lrem 1 pc') (hy : y' ≠ 0) (k : Wk E h kc kn pc' ls (.long (x % y') :: st)) : Wk E h kc kn pc ls (.long y' :: .long x :: st) := by
  obtain ⟨hd, rfl⟩ := hd
  exact K.lift (fun p e s m args below meth c F T locs X eT t q => XS.lrem X.here F.1 rfl (hb F.2.1 hd) rfl hy (by rw [lrem_mod]; exact q)) k
theorem Kx.ineg (K : Kx E y bytes ml rt l Z R n0 Q) {x : Int32} (hd : Dc bytes pc .ineg 1 pc') (k : Wk E h kc kn pc' ls (.int (-x) :: st)) : Wk E h kc kn pc ls (.int x :: st) := by
  obtain ⟨hd, rfl⟩ := hd
  exact K.lift (fun p e s m args below meth c F T locs X eT t q => XS.ineg X.here F.1 rfl (hb F.2.1 hd) rfl q) k
theorem Kx.lneg (K : Kx E y bytes ml rt l Z R n0 Q) {x : Int64} (hd : Dc bytes pc .lneg 1 pc') (k : Wk E h kc kn pc' ls (.long (-x) :: st)) : Wk E h kc kn pc ls (.long x :: st) := by
  obtain ⟨hd, rfl⟩ := hd
  exact K.lift (fun p e s m args below meth c F T locs X eT t q => XS.lneg X.here F.1 rfl (hb F.2.1 hd) rfl q) k
theorem Kx.i2l (K : Kx E y bytes ml rt l Z R n0 Q) {x : Int32} (hd : Dc bytes pc .i2l 1 pc') (k : Wk E h kc kn pc' ls (.long (x.toInt64) :: st)) : Wk E h kc kn pc ls (.int x :: st) := by
  obtain ⟨hd, rfl⟩ := hd
  exact K.lift (fun p e s m args below meth c F T locs X eT t q => XS.i2l X.here F.1 rfl (hb F.2.1 hd) rfl q) k
theorem Kx.l2i (K : Kx E y bytes ml rt l Z R n0 Q) {x : Int64} (hd : Dc bytes pc .l2i 1 pc') (k : Wk E h kc kn pc' ls (.int (x.toInt32) :: st)) : Wk E h kc kn pc ls (.long x :: st) := by
  obtain ⟨hd, rfl⟩ := hd
  exact K.lift (fun p e s m args below meth c F T locs X eT t q => XS.l2i X.here F.1 rfl (hb F.2.1 hd) rfl q) k
theorem Kx.i2b (K : Kx E y bytes ml rt l Z R n0 Q) {x : Int32} (hd : Dc bytes pc .i2b 1 pc') (k : Wk E h kc kn pc' ls (.int (x.toInt8.toInt32) :: st)) : Wk E h kc kn pc ls (.int x :: st) := by
  obtain ⟨hd, rfl⟩ := hd
  exact K.lift (fun p e s m args below meth c F T locs X eT t q => XS.i2b X.here F.1 rfl (hb F.2.1 hd) rfl q) k
theorem Kx.i2c (K : Kx E y bytes ml rt l Z R n0 Q) {x : Int32} (hd : Dc bytes pc .i2c 1 pc') (k : Wk E h kc kn pc' ls (.int (x.toUInt32.toUInt16.toUInt32.toInt32) :: st)) : Wk E h kc kn pc ls (.int x :: st) := by
  obtain ⟨hd, rfl⟩ := hd
  exact K.lift (fun p e s m args below meth c F T locs X eT t q => XS.i2c X.here F.1 rfl (hb F.2.1 hd) rfl q) k
theorem Kx.i2s (K : Kx E y bytes ml rt l Z R n0 Q) {x : Int32} (hd : Dc bytes pc .i2s 1 pc') (k : Wk E h kc kn pc' ls (.int (x.toInt16.toInt32) :: st)) : Wk E h kc kn pc ls (.int x :: st) := by
  obtain ⟨hd, rfl⟩ := hd
  exact K.lift (fun p e s m args below meth c F T locs X eT t q => XS.i2s X.here F.1 rfl (hb F.2.1 hd) rfl q) k
theorem Kx.dup (K : Kx E y bytes ml rt l Z R n0 Q) {x : Value} (hd : Dc bytes pc .dup 1 pc') (hc : x.category = 1) (k : Wk E h kc kn pc' ls (x :: x :: st)) : Wk E h kc kn pc ls (x :: st) := by
  obtain ⟨hd, rfl⟩ := hd
  exact K.lift (fun p e s m args below meth c F T locs X eT t q => XS.dup X.here F.1 rfl (hb F.2.1 hd) rfl hc q) k
theorem Kx.pop (K : Kx E y bytes ml rt l Z R n0 Q) {x : Value} (hd : Dc bytes pc .pop 1 pc') (hc : x.category = 1) (k : Wk E h kc kn pc' ls st) : Wk E h kc kn pc ls (x :: st) := by
  obtain ⟨hd, rfl⟩ := hd
  exact K.lift (fun p e s m args below meth c F T locs X eT t q => XS.pop X.here F.1 rfl (hb F.2.1 hd) rfl hc q) k
theorem Kx.dup_x1 (K : Kx E y bytes ml rt l Z R n0 Q) {x x' : Value} (hd : Dc bytes pc .dup_x1 1 pc') (hc : x.category = 1) (hc' : x'.category = 1) (k : Wk E h kc kn pc' ls (x :: x' :: x :: st)) : Wk E h kc kn pc ls (x :: x' :: st) := by
  obtain ⟨hd, rfl⟩ := hd
  exact K.lift (fun p e s m args below meth c F T locs X eT t q => XS.dupX1 X.here F.1 rfl (hb F.2.1 hd) rfl hc hc' q) k
theorem Kx.dup2 (K : Kx E y bytes ml rt l Z R n0 Q) {x x' : Value} (hd : Dc bytes pc .dup2 1 pc') (hc : x.category = 1) (hc' : x'.category = 1) (k : Wk E h kc kn pc' ls (x :: x' :: x :: x' :: st)) : Wk E h kc kn pc ls (x :: x' :: st) := by
  obtain ⟨hd, rfl⟩ := hd
  exact K.lift (fun p e s m args below meth c F T locs X eT t q => Jvm.Free.XT.dup2 X.here F.1 rfl (hb F.2.1 hd) rfl hc hc' q) k
theorem Kx.ldcI (K : Kx E y bytes ml rt l Z R n0 Q) {i : Nat} {v : Int32} (hd : Dc bytes pc (.ldc i) 2 pc') (w : (Jvm.Cond.constant y.cls i v).before a0 Z = true) (k : Wk E h kc kn pc' ls (.int v :: st)) : Wk E h kc kn pc ls st := by
  obtain ⟨hd, rfl⟩ := hd
  exact K.lift (fun p e s m args below meth c F T locs X eT t q => X.ldcI F.1 F.2.2.2.2.2.2.1 (mvT F.2.2.2.2.2.1 w) rfl (hb F.2.1 hd) q) k
theorem Kx.ldc2J (K : Kx E y bytes ml rt l Z R n0 Q) {i : Nat} {v : Int64} (hd : Dc bytes pc (.ldc2_w i) 3 pc') (w : (Jvm.Cond.constantLong y.cls i v).before a0 Z = true) (k : Wk E h kc kn pc' ls (.long v :: st)) : Wk E h kc kn pc ls st := by
  obtain ⟨hd, rfl⟩ := hd
  exact K.lift (fun p e s m args below meth c F T locs X eT t q => X.ldc2J F.1 F.2.2.2.2.2.2.1 (mvT F.2.2.2.2.2.1 w) rfl (hb F.2.1 hd) q) k
theorem Kx.goto (K : Kx E y bytes ml rt l Z R n0 Q) {o : Int} (hd : Db bytes pc (.goto o) o pc1 pc2) (k : Wk E h kc kn pc2 ls st) : Wk E h kc kn pc ls st := by
  obtain ⟨hd, -, h0, h1⟩ := hd
  exact K.lift (fun p e s m args below meth c F T locs X eT t q => XS.goto X.here F.1 rfl rfl (hb F.2.1 hd) h0 h1 q) k
theorem Kx.ic_eq (K : Kx E y bytes ml rt l Z R n0 Q) {o : Int} {x y' : Int32} (hd : Db bytes pc (.if_icmp .eq o) o pc1 pc2) (k1 : x = y' → Wk E h kc kn pc2 ls st) (k2 : ¬ x = y' → Wk E h kc kn pc1 ls st) : Wk E h kc kn pc ls (.int y' :: .int x :: st) := by
  obtain ⟨hd, rfl, h0, h1⟩ := hd
  by_cases u : x = y'
  · exact K.lift (fun p e s m args below meth c F T locs X eT t q => XS.icmpYes X.here F.1 rfl rfl (hb F.2.1 hd) rfl (teq u).1 h0 h1 q) (k1 u)
  · exact K.lift (fun p e s m args below meth c F T locs X eT t q => XS.icmpNo X.here F.1 rfl (hb F.2.1 hd) rfl (feq u).1 q) (k2 u)
theorem Kx.if_eq (K : Kx E y bytes ml rt l Z R n0 Q) {o : Int} {x : Int32} (hd : Db bytes pc (.ifCond .eq o) o pc1 pc2) (k1 : x = 0 → Wk E h kc kn pc2 ls st) (k2 : ¬ x = 0 → Wk E h kc kn pc1 ls st) : Wk E h kc kn pc ls (.int x :: st) := by
  obtain ⟨hd, rfl, h0, h1⟩ := hd
  by_cases u : x = 0
  · exact K.lift (fun p e s m args below meth c F T locs X eT t q => XS.ifYes X.here F.1 rfl rfl (hb F.2.1 hd) rfl ((if0 _ _).trans (teq u).1) h0 h1 q) (k1 u)
  · exact K.lift (fun p e s m args below meth c F T locs X eT t q => XS.ifNo X.here F.1 rfl (hb F.2.1 hd) rfl ((if0 _ _).trans (feq u).1) q) (k2 u)
theorem Kx.ic_ne (K : Kx E y bytes ml rt l Z R n0 Q) {o : Int} {x y' : Int32} (hd : Db bytes pc (.if_icmp .ne o) o pc1 pc2) (k1 : x = y' → Wk E h kc kn pc1 ls st) (k2 : ¬ x = y' → Wk E h kc kn pc2 ls st) : Wk E h kc kn pc ls (.int y' :: .int x :: st) := by
  obtain ⟨hd, rfl, h0, h1⟩ := hd
  by_cases u : x = y'
  · exact K.lift (fun p e s m args below meth c F T locs X eT t q => XS.icmpNo X.here F.1 rfl (hb F.2.1 hd) rfl (teq u).2 q) (k1 u)
  · exact K.lift (fun p e s m args below meth c F T locs X eT t q => XS.icmpYes X.here F.1 rfl rfl (hb F.2.1 hd) rfl (feq u).2 h0 h1 q) (k2 u)
theorem Kx.if_ne (K : Kx E y bytes ml rt l Z R n0 Q) {o : Int} {x : Int32} (hd : Db bytes pc (.ifCond .ne o) o pc1 pc2) (k1 : x = 0 → Wk E h kc kn pc1 ls st) (k2 : ¬ x = 0 → Wk E h kc kn pc2 ls st) : Wk E h kc kn pc ls (.int x :: st) := by
  obtain ⟨hd, rfl, h0, h1⟩ := hd
  by_cases u : x = 0
  · exact K.lift (fun p e s m args below meth c F T locs X eT t q => XS.ifNo X.here F.1 rfl (hb F.2.1 hd) rfl ((if0 _ _).trans (teq u).2) q) (k1 u)
  · exact K.lift (fun p e s m args below meth c F T locs X eT t q => XS.ifYes X.here F.1 rfl rfl (hb F.2.1 hd) rfl ((if0 _ _).trans (feq u).2) h0 h1 q) (k2 u)
theorem Kx.ic_lt (K : Kx E y bytes ml rt l Z R n0 Q) {o : Int} {x y' : Int32} (hd : Db bytes pc (.if_icmp .lt o) o pc1 pc2) (k1 : x < y' → Wk E h kc kn pc2 ls st) (k2 : ¬ x < y' → Wk E h kc kn pc1 ls st) : Wk E h kc kn pc ls (.int y' :: .int x :: st) := by
  obtain ⟨hd, rfl, h0, h1⟩ := hd
  by_cases u : x < y'
  · exact K.lift (fun p e s m args below meth c F T locs X eT t q => XS.icmpYes X.here F.1 rfl rfl (hb F.2.1 hd) rfl (tlt u).1 h0 h1 q) (k1 u)
  · exact K.lift (fun p e s m args below meth c F T locs X eT t q => XS.icmpNo X.here F.1 rfl (hb F.2.1 hd) rfl (flt u).1 q) (k2 u)
theorem Kx.if_lt (K : Kx E y bytes ml rt l Z R n0 Q) {o : Int} {x : Int32} (hd : Db bytes pc (.ifCond .lt o) o pc1 pc2) (k1 : x < 0 → Wk E h kc kn pc2 ls st) (k2 : ¬ x < 0 → Wk E h kc kn pc1 ls st) : Wk E h kc kn pc ls (.int x :: st) := by
  obtain ⟨hd, rfl, h0, h1⟩ := hd
  by_cases u : x < 0
  · exact K.lift (fun p e s m args below meth c F T locs X eT t q => XS.ifYes X.here F.1 rfl rfl (hb F.2.1 hd) rfl ((if0 _ _).trans (tlt u).1) h0 h1 q) (k1 u)
  · exact K.lift (fun p e s m args below meth c F T locs X eT t q => XS.ifNo X.here F.1 rfl (hb F.2.1 hd) rfl ((if0 _ _).trans (flt u).1) q) (k2 u)
theorem Kx.ic_ge (K : Kx E y bytes ml rt l Z R n0 Q) {o : Int} {x y' : Int32} (hd : Db bytes pc (.if_icmp .ge o) o pc1 pc2) (k1 : x < y' → Wk E h kc kn pc1 ls st) (k2 : ¬ x < y' → Wk E h kc kn pc2 ls st) : Wk E h kc kn pc ls (.int y' :: .int x :: st) := by
  obtain ⟨hd, rfl, h0, h1⟩ := hd
  by_cases u : x < y'
  · exact K.lift (fun p e s m args below meth c F T locs X eT t q => XS.icmpNo X.here F.1 rfl (hb F.2.1 hd) rfl (tlt u).2.1 q) (k1 u)
  · exact K.lift (fun p e s m args below meth c F T locs X eT t q => XS.icmpYes X.here F.1 rfl rfl (hb F.2.1 hd) rfl (flt u).2.1 h0 h1 q) (k2 u)
theorem Kx.if_ge (K : Kx E y bytes ml rt l Z R n0 Q) {o : Int} {x : Int32} (hd : Db bytes pc (.ifCond .ge o) o pc1 pc2) (k1 : x < 0 → Wk E h kc kn pc1 ls st) (k2 : ¬ x < 0 → Wk E h kc kn pc2 ls st) : Wk E h kc kn pc ls (.int x :: st) := by
  obtain ⟨hd, rfl, h0, h1⟩ := hd
  by_cases u : x < 0
  · exact K.lift (fun p e s m args below meth c F T locs X eT t q => XS.ifNo X.here F.1 rfl (hb F.2.1 hd) rfl ((if0 _ _).trans (tlt u).2.1) q) (k1 u)
  · exact K.lift (fun p e s m args below meth c F T locs X eT t q => XS.ifYes X.here F.1 rfl rfl (hb F.2.1 hd) rfl ((if0 _ _).trans (flt u).2.1) h0 h1 q) (k2 u)
theorem Kx.ic_gt (K : Kx E y bytes ml rt l Z R n0 Q) {o : Int} {x y' : Int32} (hd : Db bytes pc (.if_icmp .gt o) o pc1 pc2) (k1 : y' < x → Wk E h kc kn pc2 ls st) (k2 : ¬ y' < x → Wk E h kc kn pc1 ls st) : Wk E h kc kn pc ls (.int y' :: .int x :: st) := by
  obtain ⟨hd, rfl, h0, h1⟩ := hd
  by_cases u : y' < x
  · exact K.lift (fun p e s m args below meth c F T locs X eT t q => XS.icmpYes X.here F.1 rfl rfl (hb F.2.1 hd) rfl (tlt u).2.2.1 h0 h1 q) (k1 u)
  · exact K.lift (fun p e s m args below meth c F T locs X eT t q => XS.icmpNo X.here F.1 rfl (hb F.2.1 hd) rfl (flt u).2.2.1 q) (k2 u)
theorem Kx.if_gt (K : Kx E y bytes ml rt l Z R n0 Q) {o : Int} {x : Int32} (hd : Db bytes pc (.ifCond .gt o) o pc1 pc2) (k1 : 0 < x → Wk E h kc kn pc2 ls st) (k2 : ¬ 0 < x → Wk E h kc kn pc1 ls st) : Wk E h kc kn pc ls (.int x :: st) := by
  obtain ⟨hd, rfl, h0, h1⟩ := hd
  by_cases u : 0 < x
  · exact K.lift (fun p e s m args below meth c F T locs X eT t q => XS.ifYes X.here F.1 rfl rfl (hb F.2.1 hd) rfl ((if0 _ _).trans (tlt u).2.2.1) h0 h1 q) (k1 u)
  · exact K.lift (fun p e s m args below meth c F T locs X eT t q => XS.ifNo X.here F.1 rfl (hb F.2.1 hd) rfl ((if0 _ _).trans (flt u).2.2.1) q) (k2 u)
theorem Kx.ic_le (K : Kx E y bytes ml rt l Z R n0 Q) {o : Int} {x y' : Int32} (hd : Db bytes pc (.if_icmp .le o) o pc1 pc2) (k1 : y' < x → Wk E h kc kn pc1 ls st) (k2 : ¬ y' < x → Wk E h kc kn pc2 ls st) : Wk E h kc kn pc ls (.int y' :: .int x :: st) := by
  obtain ⟨hd, rfl, h0, h1⟩ := hd
  by_cases u : y' < x
  · exact K.lift (fun p e s m args below meth c F T locs X eT t q => XS.icmpNo X.here F.1 rfl (hb F.2.1 hd) rfl (tlt u).2.2.2 q) (k1 u)
  · exact K.lift (fun p e s m args below meth c F T locs X eT t q => XS.icmpYes X.here F.1 rfl rfl (hb F.2.1 hd) rfl (flt u).2.2.2 h0 h1 q) (k2 u)
theorem Kx.if_le (K : Kx E y bytes ml rt l Z R n0 Q) {o : Int} {x : Int32} (hd : Db bytes pc (.ifCond .le o) o pc1 pc2) (k1 : 0 < x → Wk E h kc kn pc1 ls st) (k2 : ¬ 0 < x → Wk E h kc kn pc2 ls st) : Wk E h kc kn pc ls (.int x :: st) := by
  obtain ⟨hd, rfl, h0, h1⟩ := hd
  by_cases u : 0 < x
  · exact K.lift (fun p e s m args below meth c F T locs X eT t q => XS.ifNo X.here F.1 rfl (hb F.2.1 hd) rfl ((if0 _ _).trans (tlt u).2.2.2) q) (k1 u)
  · exact K.lift (fun p e s m args below meth c F T locs X eT t q => XS.ifYes X.here F.1 rfl rfl (hb F.2.1 hd) rfl ((if0 _ _).trans (flt u).2.2.2) h0 h1 q) (k2 u)
theorem Kx.lcmp (K : Kx E y bytes ml rt l Z R n0 Q) {x y' : Int64} (hd : Dc bytes pc .lcmp 1 pc') (k : Wk E h kc kn pc' ls (.int (lcmpW x y') :: st)) : Wk E h kc kn pc ls (.long y' :: .long x :: st) := by
  obtain ⟨hd, rfl⟩ := hd
  exact K.lift (fun p e s m args below meth c F T locs X eT t q => XS.lcmp X.here F.1 rfl (hb F.2.1 hd) rfl q) k
theorem Kx.lc_eq (K : Kx E y bytes ml rt l Z R n0 Q) {o : Int} {x y' : Int64} {pcm : Nat} (hd0 : Dc bytes pc .lcmp 1 pcm) (hd : Db bytes pcm (.ifCond .eq o) o pc1 pc2) (k1 : x = y' → Wk E h kc kn pc2 ls st) (k2 : ¬ x = y' → Wk E h kc kn pc1 ls st) : Wk E h kc kn pc ls (.long y' :: .long x :: st) :=
  K.lcmp hd0 (K.if_eq hd (fun u => k1 ((lw_eq x y').mp u)) (fun u => k2 (fun v => u ((lw_eq x y').mpr v))))
theorem Kx.lc_ne (K : Kx E y bytes ml rt l Z R n0 Q) {o : Int} {x y' : Int64} {pcm : Nat} (hd0 : Dc bytes pc .lcmp 1 pcm) (hd : Db bytes pcm (.ifCond .ne o) o pc1 pc2) (k1 : x = y' → Wk E h kc kn pc1 ls st) (k2 : ¬ x = y' → Wk E h kc kn pc2 ls st) : Wk E h kc kn pc ls (.long y' :: .long x :: st) :=
  K.lcmp hd0 (K.if_ne hd (fun u => k1 ((lw_eq x y').mp u)) (fun u => k2 (fun v => u ((lw_eq x y').mpr v))))
theorem Kx.lc_lt (K : Kx E y bytes ml rt l Z R n0 Q) {o : Int} {x y' : Int64} {pcm : Nat} (hd0 : Dc bytes pc .lcmp 1 pcm) (hd : Db bytes pcm (.ifCond .lt o) o pc1 pc2) (k1 : x < y' → Wk E h kc kn pc2 ls st) (k2 : ¬ x < y' → Wk E h kc kn pc1 ls st) : Wk E h kc kn pc ls (.long y' :: .long x :: st) :=
  K.lcmp hd0 (K.if_lt hd (fun u => k1 ((lw_lt x y').mp u)) (fun u => k2 (fun v => u ((lw_lt x y').mpr v))))
theorem Kx.lc_ge (K : Kx E y bytes ml rt l Z R n0 Q) {o : Int} {x y' : Int64} {pcm : Nat} (hd0 : Dc bytes pc .lcmp 1 pcm) (hd : Db bytes pcm (.ifCond .ge o) o pc1 pc2) (k1 : x < y' → Wk E h kc kn pc1 ls st) (k2 : ¬ x < y' → Wk E h kc kn pc2 ls st) : Wk E h kc kn pc ls (.long y' :: .long x :: st) :=
  K.lcmp hd0 (K.if_ge hd (fun u => k1 ((lw_lt x y').mp u)) (fun u => k2 (fun v => u ((lw_lt x y').mpr v))))
theorem Kx.lc_gt (K : Kx E y bytes ml rt l Z R n0 Q) {o : Int} {x y' : Int64} {pcm : Nat} (hd0 : Dc bytes pc .lcmp 1 pcm) (hd : Db bytes pcm (.ifCond .gt o) o pc1 pc2) (k1 : y' < x → Wk E h kc kn pc2 ls st) (k2 : ¬ y' < x → Wk E h kc kn pc1 ls st) : Wk E h kc kn pc ls (.long y' :: .long x :: st) :=
  K.lcmp hd0 (K.if_gt hd (fun u => k1 ((lw_gt x y').mp u)) (fun u => k2 (fun v => u ((lw_gt x y').mpr v))))
theorem Kx.lc_le (K : Kx E y bytes ml rt l Z R n0 Q) {o : Int} {x y' : Int64} {pcm : Nat} (hd0 : Dc bytes pc .lcmp 1 pcm) (hd : Db bytes pcm (.ifCond .le o) o pc1 pc2) (k1 : y' < x → Wk E h kc kn pc1 ls st) (k2 : ¬ y' < x → Wk E h kc kn pc2 ls st) : Wk E h kc kn pc ls (.long y' :: .long x :: st) :=
  K.lcmp hd0 (K.if_le hd (fun u => k1 ((lw_gt x y').mp u)) (fun u => k2 (fun v => u ((lw_gt x y').mpr v))))
theorem Kx.ifnull_null (K : Kx E y bytes ml rt l Z R n0 Q) {o : Int} (hd : Db bytes pc (.ifnull o) o pc1 pc2) (k : Wk E h kc kn pc2 ls st) : Wk E h kc kn pc ls (.null :: st) := by
  obtain ⟨hd, -, h0, h1⟩ := hd
  exact K.lift (fun p e s m args below meth c F T locs X eT t q => XS.ifnullYes X.here F.1 rfl rfl (hb F.2.1 hd) rfl h0 h1 q) k
theorem Kx.ifnull_ref (K : Kx E y bytes ml rt l Z R n0 Q) {o : Int} (hd : Db bytes pc (.ifnull o) o pc1 pc2) (k : Wk E h kc kn pc1 ls st) : Wk E h kc kn pc ls (.ref a :: st) := by
  obtain ⟨hd, rfl, h0, h1⟩ := hd
  exact K.lift (fun p e s m args below meth c F T locs X eT t q => XS.ifnullNo X.here F.1 rfl (hb F.2.1 hd) rfl q) k
theorem Kx.ifnonnull_ref (K : Kx E y bytes ml rt l Z R n0 Q) {o : Int} (hd : Db bytes pc (.ifnonnull o) o pc1 pc2) (k : Wk E h kc kn pc2 ls st) : Wk E h kc kn pc ls (.ref a :: st) := by
  obtain ⟨hd, -, h0, h1⟩ := hd
  exact K.lift (fun p e s m args below meth c F T locs X eT t q => XS.ifnonnullYes X.here F.1 rfl rfl (hb F.2.1 hd) rfl h0 h1 q) k
theorem Kx.ifnonnull_null (K : Kx E y bytes ml rt l Z R n0 Q) {o : Int} (hd : Db bytes pc (.ifnonnull o) o pc1 pc2) (k : Wk E h kc kn pc1 ls st) : Wk E h kc kn pc ls (.null :: st) := by
  obtain ⟨hd, rfl, h0, h1⟩ := hd
  exact K.lift (fun p e s m args below meth c F T locs X eT t q => XS.ifnonnullNo X.here F.1 rfl (hb F.2.1 hd) rfl q) k
theorem Kx.ldcF (K : Kx E y bytes ml rt l Z R n0 Q) {i : Nat} {v : UInt32} (hd : Dc bytes pc (.ldc i) 2 pc') (w : (Jvm.Cond.constantFloat y.cls i v).before a0 Z = true) (k : Wk E h kc kn pc' ls (.float v :: st)) : Wk E h kc kn pc ls st := by
  obtain ⟨hd, rfl⟩ := hd
  exact K.lift (fun p e s m args below meth c F T locs X eT t q => X.ldcFloatC F.1 F.2.2.2.2.2.2.1 (mvT F.2.2.2.2.2.1 w) (g := mkF m pc ls st) rfl (hb F.2.1 hd) t q) k
/-- an array: its kind, its length, what each place holds -/
def Ia (Z : State) (h : Heap) (a : Addr) (ty : FieldType) (N : Int32) (f : Int32 → Value) : Prop := ∃ c : Cell, Arr Z h a c ty ∧ c.slots.size = N.toNatClampNeg ∧ ¬ N < 0 ∧ ∀ j : Int32, ¬ j < 0 → j < N → c.slots[j.toNatClampNeg]? = some (f j)
theorem Ia.lt {ty : FieldType} {N : Int32} {f : Int32 → Value} (F : Ia Z h a ty N f) : a < h.size := by obtain ⟨c, A, -⟩ := F; exact A.lt
theorem Ia.nn {ty : FieldType} {N : Int32} {f : Int32 → Value} (F : Ia Z h a ty N f) : ¬ N < 0 := by obtain ⟨c, -, -, q, -⟩ := F; exact q
theorem Ia.ext {ty : FieldType} {N : Int32} {f : Int32 → Value} (F : Ia Z h a ty N f) (X : Ext h h') : Ia Z h' a ty N f := by obtain ⟨c, A, r⟩ := F; exact ⟨c, A.ext X, r⟩
theorem Ia.other {ty : FieldType} {N : Int32} {f : Int32 → Value} {sl : Nat} {v : Value} (F : Ia Z h b ty N f) (W : Wr h h' a sl v) (q : b ≠ a) : Ia Z h' b ty N f := by obtain ⟨c, A, r⟩ := F; exact ⟨c, A.other W q, r⟩
theorem Ia.keep {ty : FieldType} {N : Int32} {f : Int32 → Value} {ws : List Addr} (F : Ia Z h a ty N f) (K : Keep h h' ws) (q : a ∉ ws) : Ia Z h' a ty N f := by obtain ⟨c, A, r⟩ := F; exact ⟨c, ⟨K.2.1 a c A.1 q, A.2⟩, r⟩
theorem Ia.congr {ty : FieldType} {N : Int32} {f g : Int32 → Value} (F : Ia Z h a ty N f) (q : ∀ j : Int32, ¬ j < 0 → j < N → f j = g j) : Ia Z h a ty N g := by
  obtain ⟨c, A, r1, r2, r3⟩ := F
  exact ⟨c, A, r1, r2, fun j h1 h2 => by rw [r3 j h1 h2, q j h1 h2]⟩
theorem Ia.set {ty : FieldType} {N j : Int32} {f : Int32 → Value} {v : Value} (F : Ia Z h a ty N f) (W : Wr h h' a j.toNatClampNeg v) (hj : ¬ j < 0) : Ia Z h' a ty N (fun k => if k = j then v else f k) := by
  obtain ⟨c, A, S, M, G⟩ := F
  refine ⟨_, A.same W, by rw [sz_set]; exact S, M, fun k h1 h2 => ?_⟩
  show _ = some (if k = j then v else f k)
  by_cases u : k = j
  · rw [if_pos u]; exact get_hit (inb_of S (u ▸ ⟨h1, h2⟩)) u
  · rw [if_neg u, get_miss hj h1 u]; exact G k h1 h2
theorem Ia.new {ty : FieldType} {N : Int32} {k : ClassId} (A : Arr Z h a (newA k ty N) ty) (q : ¬ N < 0) : Ia Z h a ty N (fun _ => defaultValue ty) :=
  ⟨_, A, sz_new _ _ _, q, fun j h1 h2 => get_new (by have := inb_of (sz_new k ty N) ⟨h1, h2⟩; rw [sz_new] at this; exact this)⟩
theorem Kx.getF (K : Kx E y bytes ml rt l Z R n0 Q) {i : Nat} {O n d : String} {v : Value} (hd : Dc bytes pc (.getfield i) 3 pc') (w : (Jvm.Cond.fieldLink y.cls i O n d).before a0 Z = true) (F : Fld Z h a O n d v) (k : Wk E h kc kn pc' ls (v :: st)) : Wk E h kc kn pc ls (.ref a :: st) := by
  obtain ⟨hd, rfl⟩ := hd
  refine K.move (fun p e s m args below meth c G T locs X eT N => ?_)
  obtain ⟨g1, g2, g3, g4, g5, hZ, hown, g8, g9⟩ := G
  have hn : n0 ≤ h.size := by rw [← eT]; exact Nat.le_trans g9 X.same.2.1
  obtain ⟨T', X', e', q'⟩ := RoadKit.getF X g1 hZ hown (host := "") (Or.inl w) Via.refl eT F (g := mkF m pc ls (.ref a :: st)) rfl rfl (hb g2 hd)
  exact ⟨T', _, _, _, _, _, _, _, X', e', N, (Nat.le_refl _), k, fun t q => q' t q⟩
theorem Kx.putF (K : Kx E y bytes ml rt l Z R n0 Q) {i kk : Nat} {O n d C : String} {ty : FieldType} {v old : Value} (hd : Dc bytes pc (.putfield i) 3 pc') (w : (Jvm.Cond.fieldLink y.cls i O n d).before a0 Z = true) (F : Fld Z h a O n d old) (X0 : Exa Z h a C)
    (L : (Jvm.Cond.lays C O n d).before a0 Z = true ∨ ((Jvm.Cond.laysFinal C O n d).before a0 Z = true ∧ y.cls = O ∧ y.name = "<init>")) (wi : (Jvm.Cond.instantiable C kk).before a0 Z = true) (ht : parseFieldDescriptor d = some ty) (hna : narrow ty v = v) (hf : fits ty v = true) (ge : n0 ≤ a)
    (k : ∀ h', Wr h h' a (RoadKit.slotOf Z O n d) v → Wk E h' kc kn pc' ls st) : Wk E h kc kn pc ls (v :: .ref a :: st) := by
  obtain ⟨hd, rfl⟩ := hd
  refine K.move (fun p e s m args below meth c G T locs X eT N => ?_)
  obtain ⟨g1, g2, g3, g4, g5, hZ, hown, g8, g9⟩ := G
  have hn : n0 ≤ h.size := by rw [← eT]; exact Nat.le_trans g9 X.same.2.1
  obtain ⟨T', h', X', e', W, q'⟩ := RoadKit.putF X g1 hZ hown (host := "") (Or.inl w) Via.refl eT F X0 (L.imp id fun u => ⟨u.1, u.2.1, g8.trans u.2.2⟩) wi ht hna hf (g := mkF m pc ls (v :: .ref a :: st)) rfl rfl (hb g2 hd)
  exact ⟨T', _, _, _, _, _, _, _, X', e', (Fr.snoc X' N ge), (Nat.le_of_eq W.size.symm), k h' W, fun t q => q' t q⟩
theorem Kx.newO (K : Kx E y bytes ml rt l Z R n0 Q) {i sz : Nat} {C : String} (kc' kn' : Nat) (hd : Dc bytes pc (.new i) 3 pc') (w : (Jvm.Cond.classLink y.cls i C).before a0 Z = true) (wi : (Jvm.Cond.instantiable C sz).before a0 Z = true) (wz : (Jvm.Cond.initialized C).before a0 Z = true)
    (hk : kc + 1 = kc') (hk2 : kn + sz = kn') (hc : kc' ≤ R.cells) (hl : kn' ≤ R.slots)
    (k : ∀ h' a, a = h.size → n0 ≤ a → Ext h h' → Exa Z h' a C → (∀ {O nm d : String} {ty : FieldType}, Laid Z a0 C O nm d → parseFieldDescriptor d = some ty → Fld Z h' a O nm d (defaultValue ty)) → Wk E h' kc' kn' pc' ls (.ref a :: st)) : Wk E h kc kn pc ls st := by
  obtain ⟨hd, rfl⟩ := hd
  refine K.move (fun p e s m args below meth c G T locs X eT N => ?_)
  obtain ⟨g1, g2, g3, g4, g5, hZ, hown, g8, g9⟩ := G
  have hn : n0 ≤ h.size := by rw [← eT]; exact Nat.le_trans g9 X.same.2.1
  subst hk hk2
  obtain ⟨T', h', X', e', E', A', D', -, q'⟩ := RoadKit.newO X g1 hZ hown w wi wz eT (g := mkF m pc ls st) rfl (hb g2 hd) hc hl
  exact ⟨T', _, _, _, _, _, _, _, X', e', N, E'.1, k h' h.size rfl hn E' A' D', fun t q => q' t q⟩
theorem Kx.newP (K : Kx E y bytes ml rt l Z R n0 Q) {aty : ArrayType} {N : Int32} {ty : FieldType} {dv : Value} (cap kc' kn' : Nat) (hd : Dc bytes pc (.newarray aty) 2 pc') (w : (Jvm.Cond.arrayClass ty).before a0 Z = true) (hty : newarray.typeOf aty = ty) (hdv : defaultValue ty = dv) (hN : ¬ N < 0) (hcap : N.toNatClampNeg ≤ cap) (h8 : cap * 8 ≤ 536870912)
    (hk : kc + 1 = kc') (hk2 : kn + cap = kn') (hc : kc' ≤ R.cells) (hl : kn' ≤ R.slots)
    (k : ∀ h' a, a = h.size → n0 ≤ a → Ext h h' → Ia Z h' a ty N (fun _ => dv) → Wk E h' kc' kn' pc' ls (.ref a :: st)) : Wk E h kc kn pc ls (.int N :: st) := by
  obtain ⟨hd, rfl⟩ := hd
  refine K.move (fun p e s m args below meth c G T locs X eT N' => ?_)
  obtain ⟨g1, g2, g3, g4, g5, hZ, hown, g8, g9⟩ := G
  have hn : n0 ≤ h.size := by rw [← eT]; exact Nat.le_trans g9 X.same.2.1
  subst hk hk2 hty hdv
  obtain ⟨T', h', cA, X', e', E', A', q'⟩ := RoadKit.newP X g1 hZ w eT (g := mkF m pc ls (.int N :: st)) rfl (hb g2 hd) rfl hN hcap h8 hc hl
  exact ⟨T', _, _, _, _, _, _, _, X', e', N', E'.1, k h' h.size rfl hn E' (Ia.new A' hN), fun t q => q' t q⟩
theorem Kx.newR (K : Kx E y bytes ml rt l Z R n0 Q) {i : Nat} {N : Int32} {C : String} (cap kc' kn' : Nat) (hd : Dc bytes pc (.anewarray i) 3 pc') (w1 : (Jvm.Cond.classLink y.cls i C).before a0 Z = true) (w2 : (Jvm.Cond.arrayOver (.object C)).before a0 Z = true) (hN : ¬ N < 0) (hcap : N.toNatClampNeg ≤ cap) (h8 : cap * 8 ≤ 536870912)
    (hk : kc + 1 = kc') (hk2 : kn + cap = kn') (hc : kc' ≤ R.cells) (hl : kn' ≤ R.slots)
    (k : ∀ h' a, a = h.size → n0 ≤ a → Ext h h' → Ia Z h' a (.object C) N (fun _ => .null) → Wk E h' kc' kn' pc' ls (.ref a :: st)) : Wk E h kc kn pc ls (.int N :: st) := by
  obtain ⟨hd, rfl⟩ := hd
  refine K.move (fun p e s m args below meth c G T locs X eT N' => ?_)
  obtain ⟨g1, g2, g3, g4, g5, hZ, hown, g8, g9⟩ := G
  have hn : n0 ≤ h.size := by rw [← eT]; exact Nat.le_trans g9 X.same.2.1
  subst hk hk2
  obtain ⟨T', h', cA, X', e', E', A', O', q'⟩ := RoadKit.newR X g1 hZ hown w1 w2 eT (g := mkF m pc ls (.int N :: st)) rfl (hb g2 hd) rfl hN hcap h8 hc hl
  exact ⟨T', _, _, _, _, _, _, _, X', e', N', E'.1, k h' h.size rfl hn E' (Ia.new A' hN), fun t q => q' t q⟩
theorem Kx.newRA (K : Kx E y bytes ml rt l Z R n0 Q) {i : Nat} {N : Int32} {C : String} {ty : FieldType} (cap kc' kn' : Nat) (hd : Dc bytes pc (.anewarray i) 3 pc') (hC : (FieldType.array ty).toString = C) (w1 : (Jvm.Cond.classLink y.cls i C).before a0 Z = true) (w2 : (Jvm.Cond.arrayOver (.array ty)).before a0 Z = true) (hN : ¬ N < 0) (hcap : N.toNatClampNeg ≤ cap) (h8 : cap * 8 ≤ 536870912)
    (hk : kc + 1 = kc') (hk2 : kn + cap = kn') (hc : kc' ≤ R.cells) (hl : kn' ≤ R.slots)
    (k : ∀ h' a, a = h.size → n0 ≤ a → Ext h h' → Ia Z h' a (.array ty) N (fun _ => .null) → Wk E h' kc' kn' pc' ls (.ref a :: st)) : Wk E h kc kn pc ls (.int N :: st) := by
  obtain ⟨hd, rfl⟩ := hd
  refine K.move (fun p e s m args below meth c G T locs X eT N' => ?_)
  obtain ⟨g1, g2, g3, g4, g5, hZ, hown, g8, g9⟩ := G
  have hn : n0 ≤ h.size := by rw [← eT]; exact Nat.le_trans g9 X.same.2.1
  subst hk hk2
  obtain ⟨T', h', cA, X', e', E', A', -, O', q'⟩ := RoadKit.newRA X g1 hZ hown hC w1 w2 eT (g := mkF m pc ls (.int N :: st)) rfl (hb g2 hd) rfl hN hcap h8 hc hl rfl
  exact ⟨T', _, _, _, _, _, _, _, X', e', N', E'.1, k h' h.size rfl hn E' (Ia.new A' hN), fun t q => q' t q⟩
theorem Kx.arraylength (K : Kx E y bytes ml rt l Z R n0 Q) {ty : FieldType} {N : Int32} {f : Int32 → Value} (hd : Dc bytes pc .arraylength 1 pc') (A : Ia Z h a ty N f) (k : Wk E h kc kn pc' ls (.int N :: st)) : Wk E h kc kn pc ls (.ref a :: st) := by
  obtain ⟨hd, rfl⟩ := hd
  obtain ⟨cl, A, S, M, G⟩ := A
  refine K.lift (fun p e s m args below meth c F T locs X eT t q => ?_) k
  exact X.arraylength F.1 (by rw [eT]; exact A.1) (State.isArrayOf_alike F.2.2.2.2.2.1.alike A.2.1) (g := mkF m pc ls (.ref a :: st)) rfl rfl (hb F.2.1 hd) t (by rw [len_of S M]; exact q)
theorem Kx.iaload (K : Kx E y bytes ml rt l Z R n0 Q) {N j : Int32} {f : Int32 → Value} {v : Value} (hd : Dc bytes pc .iaload 1 pc') (A : Ia Z h a .int N f) (h1 : ¬ j < 0) (h2 : j < N) (hv : f j = v) (k : Wk E h kc kn pc' ls (v :: st)) : Wk E h kc kn pc ls (.int j :: .ref a :: st) := by
  obtain ⟨hd, rfl⟩ := hd
  obtain ⟨cl, A, S, M, G⟩ := A
  refine K.lift (fun p e s m args below meth c F T locs X eT t q => ?_) k
  exact X.iaload F.1 (by rw [eT]; exact A.1) (State.isArrayOf_alike F.2.2.2.2.2.1.alike A.2.1) A.2.2 (inb_of S ⟨h1, h2⟩) (hv ▸ G j h1 h2) (g := mkF m pc ls (.int j :: .ref a :: st)) rfl rfl (hb F.2.1 hd) t q
theorem Kx.baload (K : Kx E y bytes ml rt l Z R n0 Q) {N j : Int32} {f : Int32 → Value} {v : Value} (hd : Dc bytes pc .baload 1 pc') (A : Ia Z h a .byte N f) (h1 : ¬ j < 0) (h2 : j < N) (hv : f j = v) (k : Wk E h kc kn pc' ls (v :: st)) : Wk E h kc kn pc ls (.int j :: .ref a :: st) := by
  obtain ⟨hd, rfl⟩ := hd
  obtain ⟨cl, A, S, M, G⟩ := A
  refine K.lift (fun p e s m args below meth c F T locs X eT t q => ?_) k
  exact X.baloadBytes F.1 (by rw [eT]; exact A.1) (State.isArrayOf_alike F.2.2.2.2.2.1.alike A.2.1) A.2.2 (inb_of S ⟨h1, h2⟩) (hv ▸ G j h1 h2) (g := mkF m pc ls (.int j :: .ref a :: st)) rfl rfl (hb F.2.1 hd) t q
theorem Kx.caload (K : Kx E y bytes ml rt l Z R n0 Q) {N j : Int32} {f : Int32 → Value} {v : Value} (hd : Dc bytes pc .caload 1 pc') (A : Ia Z h a .char N f) (h1 : ¬ j < 0) (h2 : j < N) (hv : f j = v) (k : Wk E h kc kn pc' ls (v :: st)) : Wk E h kc kn pc ls (.int j :: .ref a :: st) := by
  obtain ⟨hd, rfl⟩ := hd
  obtain ⟨cl, A, S, M, G⟩ := A
  refine K.lift (fun p e s m args below meth c F T locs X eT t q => ?_) k
  exact X.caload F.1 (by rw [eT]; exact A.1) (State.isArrayOf_alike F.2.2.2.2.2.1.alike A.2.1) A.2.2 (inb_of S ⟨h1, h2⟩) (hv ▸ G j h1 h2) (g := mkF m pc ls (.int j :: .ref a :: st)) rfl rfl (hb F.2.1 hd) t q
theorem Kx.aaload (K : Kx E y bytes ml rt l Z R n0 Q) {N j : Int32} {f : Int32 → Value} {ty : FieldType} {v : Value} (hd : Dc bytes pc .aaload 1 pc') (A : Ia Z h a ty N f) (hty : ty.isReference = true) (h1 : ¬ j < 0) (h2 : j < N) (hv : f j = v) (k : Wk E h kc kn pc' ls (v :: st)) : Wk E h kc kn pc ls (.int j :: .ref a :: st) := by
  obtain ⟨hd, rfl⟩ := hd
  obtain ⟨cl, A, S, M, G⟩ := A
  refine K.lift (fun p e s m args below meth c F T locs X eT t q => ?_) k
  exact X.aaload F.1 (by rw [eT]; exact A.1) (State.isArrayOf_alike F.2.2.2.2.2.1.alike A.2.1) hty A.2.2 (inb_of S ⟨h1, h2⟩) (hv ▸ G j h1 h2) (g := mkF m pc ls (.int j :: .ref a :: st)) rfl rfl (hb F.2.1 hd) t q
theorem Kx.iastore (K : Kx E y bytes ml rt l Z R n0 Q) {N j x : Int32} {f : Int32 → Value} (hd : Dc bytes pc .iastore 1 pc') (A : Ia Z h a .int N f) (h1 : ¬ j < 0) (h2 : j < N) (ge : n0 ≤ a)
    (k : ∀ h', Wr h h' a j.toNatClampNeg (.int x) → Ia Z h' a .int N (fun k => if k = j then .int x else f k) → Wk E h' kc kn pc' ls st) : Wk E h kc kn pc ls (.int x :: .int j :: .ref a :: st) := by
  obtain ⟨hd, rfl⟩ := hd
  refine K.move (fun p e s m args below meth c G T locs X eT N' => ?_)
  obtain ⟨g1, g2, g3, g4, g5, hZ, hown, g8, g9⟩ := G
  have hn : n0 ≤ h.size := by rw [← eT]; exact Nat.le_trans g9 X.same.2.1
  obtain ⟨cl, Ar, S, M, G⟩ := id A
  obtain ⟨T', h', X', e', W, q'⟩ := RoadKit.stI X g1 hZ eT Ar (inb_of S ⟨h1, h2⟩) (g := mkF m pc ls (.int x :: .int j :: .ref a :: st)) rfl rfl (hb g2 hd)
  exact ⟨T', _, _, _, _, _, _, _, X', e', (Fr.snoc X' N' ge), (Nat.le_of_eq W.size.symm), k h' W (A.set W h1), fun t q => q' t q⟩
theorem Kx.bastore (K : Kx E y bytes ml rt l Z R n0 Q) {N j x : Int32} {f : Int32 → Value} (hd : Dc bytes pc .bastore 1 pc') (A : Ia Z h a .byte N f) (h1 : ¬ j < 0) (h2 : j < N) (ge : n0 ≤ a)
    (k : ∀ h', Wr h h' a j.toNatClampNeg (.int x.toInt8.toInt32) → Ia Z h' a .byte N (fun k => if k = j then .int x.toInt8.toInt32 else f k) → Wk E h' kc kn pc' ls st) : Wk E h kc kn pc ls (.int x :: .int j :: .ref a :: st) := by
  obtain ⟨hd, rfl⟩ := hd
  refine K.move (fun p e s m args below meth c G T locs X eT N' => ?_)
  obtain ⟨g1, g2, g3, g4, g5, hZ, hown, g8, g9⟩ := G
  have hn : n0 ≤ h.size := by rw [← eT]; exact Nat.le_trans g9 X.same.2.1
  obtain ⟨cl, Ar, S, M, G⟩ := id A
  obtain ⟨T', h', X', e', W, q'⟩ := RoadKit.stB X g1 hZ eT Ar (inb_of S ⟨h1, h2⟩) (g := mkF m pc ls (.int x :: .int j :: .ref a :: st)) rfl rfl (hb g2 hd)
  exact ⟨T', _, _, _, _, _, _, _, X', e', (Fr.snoc X' N' ge), (Nat.le_of_eq W.size.symm), k h' W (A.set W h1), fun t q => q' t q⟩
theorem Kx.castore (K : Kx E y bytes ml rt l Z R n0 Q) {N j x : Int32} {f : Int32 → Value} (hd : Dc bytes pc .castore 1 pc') (A : Ia Z h a .char N f) (h1 : ¬ j < 0) (h2 : j < N) (ge : n0 ≤ a)
    (k : ∀ h', Wr h h' a j.toNatClampNeg (.int x.toUInt32.toUInt16.toUInt32.toInt32) → Ia Z h' a .char N (fun k => if k = j then .int x.toUInt32.toUInt16.toUInt32.toInt32 else f k) → Wk E h' kc kn pc' ls st) : Wk E h kc kn pc ls (.int x :: .int j :: .ref a :: st) := by
  obtain ⟨hd, rfl⟩ := hd
  refine K.move (fun p e s m args below meth c G T locs X eT N' => ?_)
  obtain ⟨g1, g2, g3, g4, g5, hZ, hown, g8, g9⟩ := G
  have hn : n0 ≤ h.size := by rw [← eT]; exact Nat.le_trans g9 X.same.2.1
  obtain ⟨cl, Ar, S, M, G⟩ := id A
  obtain ⟨T', h', X', e', W, q'⟩ := RoadKit.stC X g1 hZ eT Ar (inb_of S ⟨h1, h2⟩) (g := mkF m pc ls (.int x :: .int j :: .ref a :: st)) rfl rfl (hb g2 hd)
  exact ⟨T', _, _, _, _, _, _, _, X', e', (Fr.snoc X' N' ge), (Nat.le_of_eq W.size.symm), k h' W (A.set W h1), fun t q => q' t q⟩
theorem Kx.getS (K : Kx E y bytes ml rt l Z R n0 Q) {i : Nat} {O n d : String} {v : Value} (hd : Dc bytes pc (.getstatic i) 3 pc') (w : (Jvm.Cond.fieldLink y.cls i O n d).before a0 Z = true) (F : Sta Z h O n d v) (k : Wk E h kc kn pc' ls (v :: st)) : Wk E h kc kn pc ls st := by
  obtain ⟨hd, rfl⟩ := hd
  refine K.move (fun p e s m args below meth c G T locs X eT N => ?_)
  obtain ⟨g1, g2, g3, g4, g5, hZ, hown, g8, g9⟩ := G
  have hn : n0 ≤ h.size := by rw [← eT]; exact Nat.le_trans g9 X.same.2.1
  obtain ⟨T', X', e', q'⟩ := RoadKit.getS (host := "") X g1 hZ hown w Via.refl eT F (g := mkF m pc ls st) rfl (hb g2 hd)
  exact ⟨T', _, _, _, _, _, _, _, X', e', N, (Nat.le_refl _), k, fun t q => q' t q⟩
theorem Kx.castY (K : Kx E y bytes ml rt l Z R n0 Q) {i : Nat} {C : String} (hd : Dc bytes pc (.checkcast i) 3 pc') (w : (Jvm.Cond.classLink y.cls i C).before a0 Z = true) (F : Ins Z h a C true) (k : Wk E h kc kn pc' ls (.ref a :: st)) : Wk E h kc kn pc ls (.ref a :: st) := by
  obtain ⟨hd, rfl⟩ := hd
  refine K.move (fun p e s m args below meth c G T locs X eT N => ?_)
  obtain ⟨g1, g2, g3, g4, g5, hZ, hown, g8, g9⟩ := G
  obtain ⟨T', X', e', q'⟩ := RoadKit.castY X g1 hZ hown w eT F (g := mkF m pc ls (.ref a :: st)) rfl rfl (hb g2 hd)
  exact ⟨T', _, _, _, _, _, _, _, X', e', N, (Nat.le_refl _), k, fun t q => q' t q⟩
theorem Kx.instY (K : Kx E y bytes ml rt l Z R n0 Q) {i : Nat} {C : String} (hd : Dc bytes pc (.instanceof i) 3 pc') (w : (Jvm.Cond.classLink y.cls i C).before a0 Z = true) (F : Ins Z h a C true) (k : Wk E h kc kn pc' ls (.int 1 :: st)) : Wk E h kc kn pc ls (.ref a :: st) := by
  obtain ⟨hd, rfl⟩ := hd
  refine K.move (fun p e s m args below meth c G T locs X eT N => ?_)
  obtain ⟨g1, g2, g3, g4, g5, hZ, hown, g8, g9⟩ := G
  obtain ⟨T', X', e', q'⟩ := RoadKit.instY X g1 hZ hown w eT F (g := mkF m pc ls (.ref a :: st)) rfl rfl (hb g2 hd)
  exact ⟨T', _, _, _, _, _, _, _, X', e', N, (Nat.le_refl _), k, fun t q => q' t q⟩
theorem Kx.instNo (K : Kx E y bytes ml rt l Z R n0 Q) {i : Nat} {C D : String} (hd : Dc bytes pc (.instanceof i) 3 pc') (w : (Jvm.Cond.classLink y.cls i C).before a0 Z = true) (X0 : Exa Z h a D) (F : ∃ c t, Z.vm.findClass D = some c ∧ Z.vm.findClass C = some t ∧ Z.vm.assignable c t = false) (k : Wk E h kc kn pc' ls (.int 0 :: st)) : Wk E h kc kn pc ls (.ref a :: st) := by
  obtain ⟨hd, rfl⟩ := hd
  refine K.move (fun p e s m args below meth c G T locs X eT N => ?_)
  obtain ⟨g1, g2, g3, g4, g5, hZ, hown, g8, g9⟩ := G
  obtain ⟨T', X', e', q'⟩ := RoadKit.instNo X g1 hZ hown w eT X0 F (g := mkF m pc ls (.ref a :: st)) rfl rfl (hb g2 hd)
  exact ⟨T', _, _, _, _, _, _, _, X', e', N, (Nat.le_refl _), k, fun t q => q' t q⟩
theorem Kx.instNull (K : Kx E y bytes ml rt l Z R n0 Q) {i : Nat} (hd : Dc bytes pc (.instanceof i) 3 pc') (k : Wk E h kc kn pc' ls (.int 0 :: st)) : Wk E h kc kn pc ls (.null :: st) := by
  obtain ⟨hd, rfl⟩ := hd
  exact K.lift (fun p e s m args below meth c F T locs X eT t q => X.instanceofNull F.1 (g := mkF m pc ls (.null :: st)) rfl rfl (hb F.2.1 hd) t q) k
def Pl (h : Heap) (x : Addr) : Prop := ∃ c : Cell, h[x]? = some c ∧ c.vm.isStatics = false
theorem plE {C : String} (F : Exa Z h a C) : Pl h a := by obtain ⟨c, _, h1, -, -, h4, -⟩ := F; exact ⟨c, h1, h4⟩
theorem plA {ty : FieldType} {N : Int32} {f : Int32 → Value} (F : Ia Z h a ty N f) : Pl h a := by obtain ⟨c, A, -⟩ := F; exact ⟨c, A.1, A.plain⟩
theorem staK {C n d : String} {v : Value} {ws : List Addr} (F : Sta Z h C n d v) (K : Keep h h' ws) (q : ∀ x ∈ ws, Pl h x) : Sta Z h' C n d v := by
  obtain ⟨cf, i, k, f, sa, cell, h1, h2, h3, h4, h5, h6, h7⟩ := F
  refine ⟨cf, i, k, f, sa, cell, h1, h2, h3, h4, K.2.1 sa cell h5 (fun u => ?_), h6, h7⟩
  obtain ⟨c, e1, e2⟩ := q sa u
  cases h5.symm.trans e1
  rw [e2] at h6; cases h6
theorem Kx.ac_eq (K : Kx E y bytes ml rt l Z R n0 Q) {o : Int} (hd : Db bytes pc (.if_acmp .eq o) o pc1 pc2) (k1 : a = b → Wk E h kc kn pc2 ls st) (k2 : ¬ a = b → Wk E h kc kn pc1 ls st) : Wk E h kc kn pc ls (.ref b :: .ref a :: st) := by
  obtain ⟨hd, rfl, h0, h1⟩ := hd
  by_cases u : a = b
  · exact K.lift (fun p e s m args below meth c F T locs X eT t q => RoadKit.acmp (g := mkF m pc ls (.ref b :: .ref a :: st)) X F.1 rfl (x := .ref a) (y := .ref b) rfl rfl (same := true) rfl (hb F.2.1 hd) rfl (by simp [u]) h0 (by simp [acV, h1]) q) (k1 u)
  · exact K.lift (fun p e s m args below meth c F T locs X eT t q => RoadKit.acmp (g := mkF m pc ls (.ref b :: .ref a :: st)) X F.1 rfl (x := .ref a) (y := .ref b) rfl rfl (same := false) rfl (hb F.2.1 hd) rfl (by simp [u]) h0 (by simp [acV]) q) (k2 u)
theorem Kx.ac_ne (K : Kx E y bytes ml rt l Z R n0 Q) {o : Int} (hd : Db bytes pc (.if_acmp .ne o) o pc1 pc2) (k1 : a = b → Wk E h kc kn pc1 ls st) (k2 : ¬ a = b → Wk E h kc kn pc2 ls st) : Wk E h kc kn pc ls (.ref b :: .ref a :: st) := by
  obtain ⟨hd, rfl, h0, h1⟩ := hd
  by_cases u : a = b
  · exact K.lift (fun p e s m args below meth c F T locs X eT t q => RoadKit.acmp (g := mkF m pc ls (.ref b :: .ref a :: st)) X F.1 rfl (x := .ref a) (y := .ref b) rfl rfl (same := true) rfl (hb F.2.1 hd) rfl (by simp [u]) h0 (by simp [acV]) q) (k1 u)
  · exact K.lift (fun p e s m args below meth c F T locs X eT t q => RoadKit.acmp (g := mkF m pc ls (.ref b :: .ref a :: st)) X F.1 rfl (x := .ref a) (y := .ref b) rfl rfl (same := false) rfl (hb F.2.1 hd) rfl (by simp [u]) h0 (by simp [acV, h1]) q) (k2 u)
theorem Kx.initO (K : Kx E y bytes ml rt l Z R n0 Q) {i : Nat} (W : Nat) (hd : Dc bytes pc (.invokespecial i) 3 pc') (w1 : (Jvm.Cond.methodLink y.cls i Lib.objectInit).before a0 Z = true) (w2 : (Jvm.Cond.instanceMethod Lib.objectInit).before a0 Z = true) (w3 : (Jvm.Cond.code Lib.objectInit ⟨#[0xb1]⟩ 1 none).before a0 Z = true)
    (hsz : ls.size = ml) (hf : 1 ≤ R.frames) (hW : (st.map fun v => v.category).sum ≤ W) (hlo : W + 12 ≤ R.locals) (k : Wk E h kc kn pc' ls st) : Wk E h kc kn pc ls (.ref a :: st) := by
  obtain ⟨hd, rfl⟩ := hd
  refine K.move (fun p e s m args below meth c G T locs X eT N => ?_)
  obtain ⟨g1, g2, g3, g4, g5, hZ, hown, g8, g9⟩ := G
  have hn : n0 ≤ h.size := by rw [← eT]; exact Nat.le_trans g9 X.same.2.1
  obtain ⟨T', X', e', q'⟩ := RoadKit.initO X g1 hZ hown w1 w2 w3 eT (g := mkF m pc ls (.ref a :: st)) rfl (by rw [g3]; exact hsz) rfl (hb g2 hd) hf (W := W) (by show 2 * 0 + _ ≤ _; omega) hlo
  exact ⟨T', _, _, _, _, _, _, _, X', e', N, (Nat.le_refl _), k, fun t q => q' t q⟩
theorem Kx.callS (K : Kx E y bytes ml rt l Z R n0 Q) {i : Nat} {y' : MethodName} {bytes' : ByteArray} {ml' : Nat} {rt' : Option FieldType} {rm : Room} {Q' : Option Value → Heap → Prop} (as rest : List Value) (W kc' kn' : Nat) (hd : Dc bytes pc (.invokestatic i) 3 pc')
    (wl : (Jvm.Cond.methodLink y.cls i y').before a0 Z = true) (ws : (Jvm.Cond.static y').before a0 Z = true) (wz : (Jvm.Cond.initialized y'.cls).before a0 Z = true) (wc : (Jvm.Cond.code y' bytes' ml' rt').before a0 Z = true) (hy : y'.cls ≠ "java/lang/invoke/MethodHandle" ∧ y'.cls ≠ "java/lang/invoke/VarHandle")
    (con : Con l Z y' bytes' ml' rt' rm as.toArray h n0 Q') (hst : st = as.reverse ++ rest) (hlen : ∀ sig, parseMethodDescriptor y'.desc = some sig → as.length = sig.parameters.length) (hsz : ls.size = ml) (hW : (rest.map fun v => v.category).sum ≤ W)
    (hf : rm.frames + 1 ≤ R.frames) (hlo : W + (ml' + 11) + rm.locals ≤ R.locals) (hk : kc + rm.cells = kc') (hk2 : kn + rm.slots = kn') (hc : kc' ≤ R.cells) (hl : kn' ≤ R.slots)
    (k : ∀ v h', Q' v h' → Wk E h' kc' kn' pc' ls (v.toList ++ rest)) : Wk E h kc kn pc ls st := by
  obtain ⟨hd, rfl⟩ := hd
  obtain ⟨p, e, s, m, args, below, meth, c, rfl, g1, g2, g3, g4, g5, hZ, hown, g8, g9⟩ := K
  intro T locs X eT N
  have hn : n0 ≤ h.size := by rw [← eT]; exact Nat.le_trans g9 X.same.2.1
  subst hst hk hk2
  obtain ⟨v, vm₁, ⟨T', L', k', n'⟩, -, X', ⟨L, ⟨hQ, hFr⟩, e1, e2, e3⟩, q'⟩ := Jvm.LawKit.callS X g1 (y := y') hown (mvT hZ wl) (mvT hZ ws) (mvT hZ wz) (mvT hZ wc) hy (backOf (W := W) (Q := fun v h L => Q' v h ∧ Fr n0 L) (con hn []) hZ wc wz hf hlo) (g := mkF m pc ls (as.reverse ++ rest)) rfl (by rw [g3]; exact hsz) (argsL := as) (rest := rest) hlen rfl (by show 2 * 0 + _ ≤ _; omega) (hb g2 hd) (fun _ _ => ⟨rfl, eT, hc, hl⟩)
  dsimp only [Pt.U, Pt.locs, Pt.cells, Pt.slots] at X' e1 e2 e3 q' hQ
  subst e1 e2 e3
  obtain ⟨s₂, o, q, r⟩ := k v T'.heap hQ T' _ X' rfl (Fr.app N hFr)
  exact ⟨s₂, o, q' _ q, r⟩
theorem Kx.callI (K : Kx E y bytes ml rt l Z R n0 Q) {i : Nat} {y' : MethodName} {bytes' : ByteArray} {ml' : Nat} {rt' : Option FieldType} {rm : Room} {Q' : Option Value → Heap → Prop} (as rest : List Value) (W kc' kn' : Nat) (hd : Dc bytes pc (.invokespecial i) 3 pc') (hy1 : y'.name = "<init>") (hrt : rt' = none)
    (wl : (Jvm.Cond.methodLink y.cls i y').before a0 Z = true) (wn : (Jvm.Cond.instanceMethod y').before a0 Z = true) (wz : (Jvm.Cond.initialized y'.cls).before a0 Z = true) (wc : (Jvm.Cond.code y' bytes' ml' rt').before a0 Z = true) (hy : y'.cls ≠ "java/lang/invoke/MethodHandle" ∧ y'.cls ≠ "java/lang/invoke/VarHandle")
    (con : Con l Z y' bytes' ml' rt' rm (.ref a :: as).toArray h n0 Q') (hst : st = as.reverse ++ .ref a :: rest) (hlen : ∀ sig, parseMethodDescriptor y'.desc = some sig → as.length = sig.parameters.length) (hsz : ls.size = ml) (hW : (rest.map fun v => v.category).sum ≤ W)
    (hf : rm.frames + 1 ≤ R.frames) (hlo : W + (ml' + 11) + rm.locals ≤ R.locals) (hk : kc + rm.cells = kc') (hk2 : kn + rm.slots = kn') (hc : kc' ≤ R.cells) (hl : kn' ≤ R.slots)
    (k : ∀ v h', Q' v h' → Wk E h' kc' kn' pc' ls (v.toList ++ rest)) : Wk E h kc kn pc ls st := by
  obtain ⟨hd, rfl⟩ := hd
  obtain ⟨p, e, s, m, args, below, meth, c, rfl, g1, g2, g3, g4, g5, hZ, hown, g8, g9⟩ := K
  intro T locs X eT N
  have hn : n0 ≤ h.size := by rw [← eT]; exact Nat.le_trans g9 X.same.2.1
  subst hst hk hk2
  subst hrt
  obtain ⟨v, vm₁, ⟨T', L', k', n'⟩, -, X', ⟨L, ⟨hQ, hFr⟩, e1, e2, e3⟩, q'⟩ := X.specialBack g1 (y := y') hy1 hown (mvT hZ wl) (mvT hZ wn) (mvT hZ wc) hy (backOf (W := W) (Q := fun v h L => Q' v h ∧ Fr n0 L) (con hn []) hZ wc wz hf hlo) (g := mkF m pc ls (as.reverse ++ .ref a :: rest)) rfl (by rw [g3]; exact hsz) (Steps.refl _) (a := a) (argsL := as) (rest := rest) hlen rfl (by show 2 * 0 + _ ≤ _; omega) (hb g2 hd) (fun _ _ => ⟨rfl, eT, hc, hl⟩)
  dsimp only [Pt.U, Pt.locs, Pt.cells, Pt.slots] at X' e1 e2 e3 q' hQ
  subst e1 e2 e3
  obtain ⟨s₂, o, q, r⟩ := k v T'.heap hQ T' _ X' rfl (Fr.app N hFr)
  exact ⟨s₂, o, q'.trans q, r⟩
theorem Kx.callV (K : Kx E y bytes ml rt l Z R n0 Q) {i : Nat} {y' : MethodName} {bytes' : ByteArray} {ml' : Nat} {rt' : Option FieldType} {rm : Room} {Q' : Option Value → Heap → Prop} (as rest : List Value) (W kc' kn' : Nat) {C : String} (hd : Dc bytes pc (.invokevirtual i) 3 pc')
    (wl : (Jvm.Cond.methodLink y.cls i y').before a0 Z = true) (wd : (Jvm.Cond.declares y').before a0 Z = true) (wse : (Jvm.Cond.selects C y' y').before a0 Z = true) (wn : (Jvm.Cond.instanceMethod y').before a0 Z = true) (wz : (Jvm.Cond.initialized y'.cls).before a0 Z = true) (wc : (Jvm.Cond.code y' bytes' ml' rt').before a0 Z = true) (hy : y'.cls ≠ "java/lang/invoke/MethodHandle" ∧ y'.cls ≠ "java/lang/invoke/VarHandle")
    (con : Con l Z y' bytes' ml' rt' rm (.ref a :: as).toArray h n0 Q') (X0 : Exa Z h a C) (hst : st = as.reverse ++ .ref a :: rest) (hlen : ∀ sig, parseMethodDescriptor y'.desc = some sig → as.length = sig.parameters.length) (hsz : ls.size = ml) (hW : (rest.map fun v => v.category).sum ≤ W)
    (hf : rm.frames + 1 ≤ R.frames) (hlo : W + (ml' + 11) + rm.locals ≤ R.locals) (hk : kc + rm.cells = kc') (hk2 : kn + rm.slots = kn') (hc : kc' ≤ R.cells) (hl : kn' ≤ R.slots)
    (k : ∀ v h', Q' v h' → Wk E h' kc' kn' pc' ls (v.toList ++ rest)) : Wk E h kc kn pc ls st := by
  obtain ⟨hd, rfl⟩ := hd
  obtain ⟨p, e, s, m, args, below, meth, c, rfl, g1, g2, g3, g4, g5, hZ, hown, g8, g9⟩ := K
  intro T locs X eT N
  have hn : n0 ≤ h.size := by rw [← eT]; exact Nat.le_trans g9 X.same.2.1
  subst hst hk hk2
  obtain ⟨cq, kq, qa, qb, qc⟩ := isOf hZ eT X0
  obtain ⟨v, vm₁, ⟨T', L', k', n'⟩, -, X', ⟨L, ⟨hQ, hFr⟩, e1, e2, e3⟩, q'⟩ := X.virtualBack g1 (y := y') (z := y') hown (mvT hZ wl) (mvT hZ wd) (notFace_of_selects (args := #[]) (mvT hZ wse)) (mvT hZ wse) (mvT hZ wn) hy (backOf (W := W) (Q := fun v h L => Q' v h ∧ Fr n0 L) (con hn []) hZ wc wz hf hlo) qa qc (g := mkF m pc ls (as.reverse ++ .ref a :: rest)) rfl (by rw [g3]; exact hsz) (Steps.refl _) (argsL := as) (rest := rest) hlen rfl (by show 2 * 0 + _ ≤ _; omega) (hb g2 hd) (fun _ _ => ⟨rfl, eT, hc, hl⟩)
  dsimp only [Pt.U, Pt.locs, Pt.cells, Pt.slots] at X' e1 e2 e3 q' hQ
  subst e1 e2 e3
  obtain ⟨s₂, o, q, r⟩ := k v T'.heap hQ T' _ X' rfl (Fr.app N hFr)
  exact ⟨s₂, o, q'.trans q, r⟩
theorem Kx.callP (K : Kx E y bytes ml rt l Z R n0 Q) {i : Nat} {y' : MethodName} {bytes' : ByteArray} {ml' : Nat} {rt' : Option FieldType} {rm : Room} {Q' : Option Value → Heap → Prop} (as rest : List Value) (W kc' kn' : Nat) {C : String} (hd : Dc bytes pc (.invokevirtual i) 3 pc')
    (wl : (Jvm.Cond.methodLink y.cls i y').before a0 Z = true) (wp : (Jvm.Cond.privateMethod y').before a0 Z = true) (wse : (Jvm.Cond.selects y'.cls y' y').before a0 Z = true) (wn : (Jvm.Cond.instanceMethod y').before a0 Z = true) (wz : (Jvm.Cond.initialized y'.cls).before a0 Z = true) (wc : (Jvm.Cond.code y' bytes' ml' rt').before a0 Z = true) (hy : y'.cls ≠ "java/lang/invoke/MethodHandle" ∧ y'.cls ≠ "java/lang/invoke/VarHandle")
    (con : Con l Z y' bytes' ml' rt' rm (.ref a :: as).toArray h n0 Q') (X0 : Exa Z h a C) (hst : st = as.reverse ++ .ref a :: rest) (hlen : ∀ sig, parseMethodDescriptor y'.desc = some sig → as.length = sig.parameters.length) (hsz : ls.size = ml) (hW : (rest.map fun v => v.category).sum ≤ W)
    (hf : rm.frames + 1 ≤ R.frames) (hlo : W + (ml' + 11) + rm.locals ≤ R.locals) (hk : kc + rm.cells = kc') (hk2 : kn + rm.slots = kn') (hc : kc' ≤ R.cells) (hl : kn' ≤ R.slots)
    (k : ∀ v h', Q' v h' → Wk E h' kc' kn' pc' ls (v.toList ++ rest)) : Wk E h kc kn pc ls st := by
  obtain ⟨hd, rfl⟩ := hd
  obtain ⟨p, e, s, m, args, below, meth, c, rfl, g1, g2, g3, g4, g5, hZ, hown, g8, g9⟩ := K
  intro T locs X eT N
  have hn : n0 ≤ h.size := by rw [← eT]; exact Nat.le_trans g9 X.same.2.1
  subst hst hk hk2
  obtain ⟨cq, qa, qb⟩ := X0.cell
  obtain ⟨v, vm₁, ⟨T', L', k', n'⟩, -, X', ⟨L, ⟨hQ, hFr⟩, e1, e2, e3⟩, q'⟩ := X.privateBack g1 (y := y') hown (mvT hZ wl) (mvT hZ wn) (mvT hZ wse) (Cond.privateMethod_at (mvP hZ wp (args := #[]))) (mvT hZ wc) hy (backOf (W := W) (Q := fun v h L => Q' v h ∧ Fr n0 L) (con hn []) hZ wc wz hf hlo) (g := mkF m pc ls (as.reverse ++ .ref a :: rest)) rfl (by rw [g3]; exact hsz) (Steps.refl _) (a := a) (by rw [eT]; exact qa) qb (argsL := as) (rest := rest) hlen rfl (by show 2 * 0 + _ ≤ _; omega) (hb g2 hd) (fun _ _ => ⟨rfl, eT, hc, hl⟩)
  dsimp only [Pt.U, Pt.locs, Pt.cells, Pt.slots] at X' e1 e2 e3 q' hQ
  subst e1 e2 e3
  obtain ⟨s₂, o, q, r⟩ := k v T'.heap hQ T' _ X' rfl (Fr.app N hFr)
  exact ⟨s₂, o, q'.trans q, r⟩
/-- how a call goes on: it hands back one value and leaves the heap; a value; nothing; a reference -/
theorem goP {val : Value} {rest : List Value} (k : Wk E h kc kn pc ls (val :: rest)) : ∀ v h', (v = some val ∧ h' = h) → Wk E h' kc kn pc ls (v.toList ++ rest) := fun v h' q => by obtain ⟨rfl, rfl⟩ := q; exact k
theorem goV {val : Value} {rest : List Value} {Qh : Heap → Prop} (k : ∀ h', Qh h' → Wk E h' kc kn pc ls (val :: rest)) : ∀ v h', (v = some val ∧ Qh h') → Wk E h' kc kn pc ls (v.toList ++ rest) := fun v h' q => by obtain ⟨rfl, q⟩ := q; exact k h' q
theorem goN {rest : List Value} (k : Wk E h kc kn pc ls rest) : ∀ v h', (v = (none : Option Value) ∧ h' = h) → Wk E h' kc kn pc ls (v.toList ++ rest) := fun v h' q => by obtain ⟨rfl, rfl⟩ := q; exact k
theorem goU {rest : List Value} {Qh : Heap → Prop} (k : ∀ h', Qh h' → Wk E h' kc kn pc ls rest) : ∀ v h', (v = (none : Option Value) ∧ Qh h') → Wk E h' kc kn pc ls (v.toList ++ rest) := fun v h' q => by obtain ⟨rfl, q⟩ := q; exact k h' q
theorem goR {rest : List Value} {Qr : Addr → Heap → Prop} (k : ∀ a h', Qr a h' → Wk E h' kc kn pc ls (.ref a :: rest)) : ∀ v h', (∃ a, v = some (.ref a) ∧ Qr a h') → Wk E h' kc kn pc ls (v.toList ++ rest) := fun v h' q => by obtain ⟨a, rfl, q⟩ := q; exact k a h' q
theorem goI {rest : List Value} {Qr : Int32 → Heap → Prop} (k : ∀ a h', Qr a h' → Wk E h' kc kn pc ls (.int a :: rest)) : ∀ v h', (∃ a, v = some (.int a) ∧ Qr a h') → Wk E h' kc kn pc ls (v.toList ++ rest) := fun v h' q => by obtain ⟨a, rfl, q⟩ := q; exact k a h' q
theorem goIs {rest : List Value} {Pz : Int32 → Prop} (k : ∀ z, Pz z → Wk E h kc kn pc ls (.int z :: rest)) : ∀ v h', (∃ z, v = some (.int z) ∧ (h' = h ∧ Pz z)) → Wk E h' kc kn pc ls (v.toList ++ rest) := fun v h' q => by obtain ⟨z, rfl, rfl, q⟩ := q; exact k z q
theorem Kx.ret (K : Kx E y bytes ml none l Z R n0 Q) (hd : Dc bytes pc .return_ 1 pc') (hc : kc ≤ R.cells) (hl : kn ≤ R.slots) (hQ : Q none h) : Wk E h kc kn pc ls [] := by
  obtain ⟨p, e, s, m, args, below, meth, c, rfl, g1, g2, g3, g4, g5, hZ, hown, g8, g9⟩ := K
  intro T locs X eT N
  obtain ⟨fs, hr, hrun, hended, hW, hsame⟩ := X.leave (v := none) (fun _ => rfl) g5
  exact ⟨_, _, X.returnOut g1 g4 (hb g2 hd.1) hr, hrun, hended, _, _, rfl, ⟨(by show Q none T.heap; rw [eT]; exact hQ), N⟩, ⟨_, rfl⟩, hW, hsame.mono hc hl⟩
theorem Kx.retW {t : FieldType} {w : Value} {i : Instr} (K : Kx E y bytes ml (some t) l Z R n0 Q) (hd : Dc bytes pc i 1 pc') (hna : narrow t w = w) (hi : (i = .ireturn ∧ (t = .int ∨ t = .boolean ∨ t = .byte ∨ t = .char ∨ t = .short) ∧ ∃ z, w = .int z) ∨ (i = .lreturn ∧ t = .long ∧ ∃ z, w = .long z) ∨ (i = .dreturn ∧ t = .double ∧ ∃ z, w = .double z) ∨ (i = .freturn ∧ t = .float ∧ ∃ z, w = .float z) ∨ (i = .areturn ∧ t.isReference = true ∧ w.isRef = true)) (hc : kc ≤ R.cells) (hl : kn ≤ R.slots) (hQ : Q (some w) h) : Wk E h kc kn pc ls (w :: st) := by
  obtain ⟨p, e, s, m, args, below, meth, c, rfl, g1, g2, g3, g4, g5, hZ, hown, g8, g9⟩ := K
  intro T locs X eT N
  obtain ⟨fs, hr, hrun, hended, hW, hsame⟩ := X.leave (v := some w) (fun h => by rw [g4] at h; cases h) g5
  exact ⟨_, _, retOut X g1 g4 hna hi (hb g2 hd.1) hr, hrun, hended, _, _, rfl, ⟨(by show Q (some w) T.heap; rw [eT]; exact hQ), N⟩, ⟨_, rfl⟩, hW, hsame.mono hc hl⟩
theorem Kx.ireturn {t : FieldType} {z : Int32} (K : Kx E y bytes ml (some t) l Z R n0 Q) (hd : Dc bytes pc .ireturn 1 pc') (ht : t = .int ∨ t = .boolean ∨ t = .byte ∨ t = .char ∨ t = .short) (hna : narrow t (.int z) = .int z) (hc : kc ≤ R.cells) (hl : kn ≤ R.slots) (hQ : Q (some (.int z)) h) : Wk E h kc kn pc ls (.int z :: st) :=
  K.retW hd hna (Or.inl ⟨rfl, ht, z, rfl⟩) hc hl hQ
theorem Kx.lreturn {z : Int64} (K : Kx E y bytes ml (some .long) l Z R n0 Q) (hd : Dc bytes pc .lreturn 1 pc') (hc : kc ≤ R.cells) (hl : kn ≤ R.slots) (hQ : Q (some (.long z)) h) : Wk E h kc kn pc ls (.long z :: st) :=
  K.retW hd rfl (Or.inr (Or.inl ⟨rfl, rfl, z, rfl⟩)) hc hl hQ
theorem Kx.areturn {t : FieldType} {w : Value} (K : Kx E y bytes ml (some t) l Z R n0 Q) (hd : Dc bytes pc .areturn 1 pc') (ht : t.isReference = true) (hw : w.isRef = true) (hna : narrow t w = w) (hc : kc ≤ R.cells) (hl : kn ≤ R.slots) (hQ : Q (some w) h) : Wk E h kc kn pc ls (w :: st) :=
  K.retW hd hna (Or.inr (Or.inr (Or.inr (Or.inr ⟨rfl, ht, hw⟩)))) hc hl hQ
theorem narB {P : Prop} [Decidable P] : narrow .boolean (.int (if P then 1 else 0)) = .int (if P then 1 else 0) := by split <;> rfl
theorem narB' {P : Prop} [Decidable P] : narrow .boolean (.int (if P then 0 else 1)) = .int (if P then 0 else 1) := by split <;> rfl
end Own
end Pl
section Own
theorem cut {P G : Prop} (f : P → G) (g : P) : G := f g
theorem ha_ge {h0 h : Heap} {a : Addr} (q : h0.size ≤ h.size) (e : a = h.size) : h0.size ≤ a := by rw [e]; exact q
/-- what stands fixed in one invocation's walk -/
abbrev Ev : Type := Program × Launch × Env × Room × State × MethodId × Array Value × List Frame × Method × Code × Nat × (Option Value → Heap → Prop) × (Vm → List Loc → Prop)
abbrev Vt : Vm → List Loc → Prop := fun _ _ => True
abbrev Vx : Vm → Prop := fun _ => True
/-- nothing has been interned since Z -/
abbrev Vi (Z : State) : Vm → Prop := fun vm => vm.interned = Z.vm.interned
abbrev Vc (Z : State) : Vm → List Loc → Prop := fun vm _ => vm.interned = Z.vm.interned
abbrev V0 (Z : State) : Vm → List Loc → Prop := fun vm locs => vm.interned = Z.vm.interned ∧ locs = []
def Dc (bytes : ByteArray) (pc : Nat) (i : Instr) (len pc' : Nat) : Prop := decode bytes pc = .ok (i, len) ∧ pc + len = pc'
def Db (bytes : ByteArray) (pc : Nat) (i : Instr) (o : Int) (pc1 pc2 : Nat) : Prop := decode bytes pc = .ok (i, 3) ∧ pc + 3 = pc1 ∧ 0 ≤ (pc : Int) + o ∧ ((pc : Int) + o).toNat = pc2
/-- from this heap, these counts, pc, locals and stack the invocation comes to a return of which its Q holds -/
def Wk : Ev → Heap → Nat → Nat → Nat → Array Slot → List Value → Prop
  | (p, l, e, R, s, m, args, below, meth, c, n0, Q, V), h, kc, kn, pc, ls, st => ∀ (T : State) (locs : List Loc) (vm0 : Vm) (k0 : Nat), Stand p l e R (s.setVm vm0) m args below meth c T locs kc kn → s.Since vm0 k0 → k0 ≤ h.size → T.heap = h → Fr n0 locs → V vm0 locs →
    ∃ s₂ o, Steps p.tables e below (T.setTop (mkF m pc ls st)) s₂ ∧ s₂.status = .running ∧ Ended s₂ below o ∧ ∃ v L, o = .returned v ∧ (Q v s₂.heap ∧ Fr n0 L) ∧ ReturnedEndW s o s₂ L R.cells R.slots
def Kf (p : Program) (s : State) (m : MethodId) (meth : Method) (c : Code) (y : MethodName) (bytes : ByteArray) (ml : Nat) (rt : Option FieldType) (Z : State) (n0 : Nat) : Prop :=
  p.tables.exec = Jvm.exec ∧ c.code = bytes ∧ c.maxLocals = ml ∧ meth.sig.returnType = rt ∧ meth.locks = false ∧ Z.Warmed39 s.vm ∧ s.vm.findClass y.cls = some m.cls ∧ meth.name = y.name ∧ n0 ≤ s.heap.size
def Kx (E : Ev) (y : MethodName) (bytes : ByteArray) (ml : Nat) (rt : Option FieldType) (l : Launch) (Z : State) (R : Room) (n0 : Nat) (Q : Option Value → Heap → Prop) (V : Vm → List Loc → Prop) : Prop :=
  ∃ p e s m args below meth c, E = (p, l, e, R, s, m, args, below, meth, c, n0, Q, V) ∧ Kf p s m meth c y bytes ml rt Z n0
/-- a callee's contract at one heap and one row of arguments -/
def Con (l : Launch) (Z : State) (y : MethodName) (bytes : ByteArray) (ml : Nat) (rt : Option FieldType) (rm : Room) (as : Array Value) (h : Heap) (n0 : Nat) (Q : Option Value → Heap → Prop) (Vv : Vm → Prop) : Prop :=
  n0 ≤ h.size → ∀ ws : List Jvm.Cond, MetFree l y (head1 (Jvm.Cond.code y bytes ml rt :: ws) rm) (fun a U => a = as ∧ Z.Warmed39 U.vm ∧ U.heap = h ∧ Vv U.vm) (fun _ _ _ _ _ => True) (fun _ U o U' => ∃ v L, o = .returned v ∧ (Q v U'.heap ∧ Fr n0 L) ∧ ReturnedEndW U o U' L rm.cells rm.slots)
variable {V : Vm → List Loc → Prop} {Vv : Vm → Prop} {E : Ev} {y : MethodName} {bytes : ByteArray} {ml : Nat} {rt : Option FieldType} {l : Launch} {Z : State} {R : Room} {n0 : Nat} {Q : Option Value → Heap → Prop} {a0 : Array Value} {h h' : Heap} {kc kn kc' kn' pc pc' pc1 pc2 : Nat} {ls ls' : Array Slot} {st : List Value} {a b : Addr}
theorem Con.of (pn : plainFor y = true) {as : Array Value} {rm : Room} (ef : ∀ m, entryFrame m as ml = mkF m 0 ls []) (body : ∀ E : Ev, Kx E y bytes ml rt l Z rm n0 Q Vt → Wk E h 0 0 0 ls []) : Con l Z y bytes ml rt rm as h n0 Q Vv := by
  intro hn ws
  refine MetFree.of_bodySF pn hisR ?_
  intro p e s m args below meth c s₁ Bd hml0 hP hK
  obtain ⟨ha, hZ, hh, hV⟩ := hP
  subst ha
  have X0 : Stand p l e rm s m args below meth c s₁ [] 0 0 := Stand.of_body Bd
  have e0 : s₁.heap = h := by rw [← hh, Bd.state]; rfl
  obtain ⟨s₂, o, q, r⟩ := body (p, l, e, rm, s, m, args, below, meth, c, n0, Q, Vt) ⟨p, e, s, m, args, below, meth, c, rfl, Bd.exec, Bd.bytes, hml0, Bd.returns, Bd.notSynchronized, hZ, findClass_of_methodNamed Bd.named, (name_of_methodNamed Bd.named Bd.method).1, by rw [hh]; exact hn⟩ s₁ [] s.vm 0 (show Stand p l e rm (s.setVm s.vm) m args below meth c s₁ [] 0 0 from X0) ((State.WarmedH.refl s).since _) (Nat.zero_le _) e0 (Fr.nil n0) trivial
  exact ⟨s₂, o, castTop (ef m) q, r⟩
theorem Con.ofC (pn : plainFor y = true) {as : Array Value} {rm : Room} (ef : ∀ m, entryFrame m as ml = mkF m 0 ls []) (body : ∀ E : Ev, Kx E y bytes ml rt l Z rm n0 Q (Vc Z) → Wk E h 0 0 0 ls []) : Con l Z y bytes ml rt rm as h n0 Q (Vi Z) := by
  intro hn ws
  refine MetFree.of_bodySF pn hisR ?_
  intro p e s m args below meth c s₁ Bd hml0 hP hK
  obtain ⟨ha, hZ, hh, hV⟩ := hP
  subst ha
  have X0 : Stand p l e rm s m args below meth c s₁ [] 0 0 := Stand.of_body Bd
  have e0 : s₁.heap = h := by rw [← hh, Bd.state]; rfl
  obtain ⟨s₂, o, q, r⟩ := body (p, l, e, rm, s, m, args, below, meth, c, n0, Q, (Vc Z)) ⟨p, e, s, m, args, below, meth, c, rfl, Bd.exec, Bd.bytes, hml0, Bd.returns, Bd.notSynchronized, hZ, findClass_of_methodNamed Bd.named, (name_of_methodNamed Bd.named Bd.method).1, by rw [hh]; exact hn⟩ s₁ [] s.vm 0 (show Stand p l e rm (s.setVm s.vm) m args below meth c s₁ [] 0 0 from X0) ((State.WarmedH.refl s).since _) (Nat.zero_le _) e0 (Fr.nil n0) hV
  exact ⟨s₂, o, castTop (ef m) q, r⟩
theorem Con.of0 (pn : plainFor y = true) {as : Array Value} {rm : Room} (ef : ∀ m, entryFrame m as ml = mkF m 0 ls []) (body : ∀ E : Ev, Kx E y bytes ml rt l Z rm n0 Q (V0 Z) → Wk E h 0 0 0 ls []) : Con l Z y bytes ml rt rm as h n0 Q (Vi Z) := by
  intro hn ws
  refine MetFree.of_bodySF pn hisR ?_
  intro p e s m args below meth c s₁ Bd hml0 hP hK
  obtain ⟨ha, hZ, hh, hV⟩ := hP
  subst ha
  have X0 : Stand p l e rm s m args below meth c s₁ [] 0 0 := Stand.of_body Bd
  have e0 : s₁.heap = h := by rw [← hh, Bd.state]; rfl
  obtain ⟨s₂, o, q, r⟩ := body (p, l, e, rm, s, m, args, below, meth, c, n0, Q, (V0 Z)) ⟨p, e, s, m, args, below, meth, c, rfl, Bd.exec, Bd.bytes, hml0, Bd.returns, Bd.notSynchronized, hZ, findClass_of_methodNamed Bd.named, (name_of_methodNamed Bd.named Bd.method).1, by rw [hh]; exact hn⟩ s₁ [] s.vm 0 (show Stand p l e rm (s.setVm s.vm) m args below meth c s₁ [] 0 0 from X0) ((State.WarmedH.refl s).since _) (Nat.zero_le _) e0 (Fr.nil n0) ⟨hV, rfl⟩
  exact ⟨s₂, o, castTop (ef m) q, r⟩
theorem Kf.at {p : Program} {s : State} {m : MethodId} {meth : Method} {c : Code} {vm0 : Vm} {k0 : Nat} (F : Kf p s m meth c y bytes ml rt Z n0) (hS : s.Since vm0 k0) : Kf p (s.setVm vm0) m meth c y bytes ml rt Z n0 :=
  ⟨F.1, F.2.1, F.2.2.1, F.2.2.2.1, F.2.2.2.2.1, State.Warmed39.trans F.2.2.2.2.2.1 hS.1, by rw [show (s.setVm vm0).vm = vm0 from rfl, hS.1.alike.findClass]; exact F.2.2.2.2.2.2.1, F.2.2.2.2.2.2.2.1, F.2.2.2.2.2.2.2.2⟩
theorem Kx.lift {st' : List Value} (K : Kx E y bytes ml rt l Z R n0 Q V) (f : ∀ (p : Program) (e : Env) (s : State) (m : MethodId) (args : Array Value) (below : List Frame) (meth : Method) (c : Code), Kf p s m meth c y bytes ml rt Z n0 → ∀ (T : State) (locs : List Loc), Stand p l e R s m args below meth c T locs kc kn → T.heap = h → ∀ t, Steps p.tables e below (T.setTop (mkF m pc' ls' st)) t → Steps p.tables e below (T.setTop (mkF m pc ls st')) t) (k : Wk E h kc kn pc' ls' st) : Wk E h kc kn pc ls st' := by
  obtain ⟨p, e, s, m, args, below, meth, c, rfl, F⟩ := K
  intro T locs vm0 k0 X hS hk0 eT N hV
  obtain ⟨s₂, o, q, r⟩ := k T locs vm0 k0 X hS hk0 eT N hV
  exact ⟨s₂, o, f p e (s.setVm vm0) m args below meth c (F.at hS) T locs X eT s₂ q, r⟩
theorem Kx.move0 (K : Kx E y bytes ml rt l Z R n0 Q V) (f : ∀ (p : Program) (e : Env) (s : State) (m : MethodId) (args : Array Value) (below : List Frame) (meth : Method) (c : Code), Kf p s m meth c y bytes ml rt Z n0 → ∀ (T : State) (locs : List Loc), Stand p l e R s m args below meth c T locs kc kn → T.heap = h → Fr n0 locs →
    ∃ (T' : State) (h' : Heap) (kc' kn' pc' : Nat) (ls' : Array Slot) (st' : List Value), Stand p l e R s m args below meth c T' locs kc' kn' ∧ T'.heap = h' ∧ h.size ≤ h'.size ∧ Wk E h' kc' kn' pc' ls' st' ∧ ∀ t, Steps p.tables e below (T'.setTop (mkF m pc' ls' st')) t → Steps p.tables e below (T.setTop (mkF m pc ls st)) t) : Wk E h kc kn pc ls st := by
  obtain ⟨p, e, s, m, args, below, meth, c, rfl, F⟩ := K
  intro T locs vm0 k0 X hS hk0 eT N hV
  obtain ⟨T', h', kc', kn', pc', ls', st', X', e', hgr, k, q'⟩ := f p e (s.setVm vm0) m args below meth c (F.at hS) T locs X eT N
  obtain ⟨s₂, o, q, r⟩ := k T' locs vm0 k0 X' hS (Nat.le_trans hk0 hgr) e' N hV
  exact ⟨s₂, o, q' _ q, r⟩

theorem Kx.move (K : Kx E y bytes ml rt l Z R n0 Q V) (hF : ∀ vm l l', V vm l → V vm l') (f : ∀ (p : Program) (e : Env) (s : State) (m : MethodId) (args : Array Value) (below : List Frame) (meth : Method) (c : Code), Kf p s m meth c y bytes ml rt Z n0 → ∀ (T : State) (locs : List Loc), Stand p l e R s m args below meth c T locs kc kn → T.heap = h → Fr n0 locs →
    ∃ (T' : State) (locs' : List Loc) (h' : Heap) (kc' kn' pc' : Nat) (ls' : Array Slot) (st' : List Value), Stand p l e R s m args below meth c T' locs' kc' kn' ∧ T'.heap = h' ∧ Fr n0 locs' ∧ h.size ≤ h'.size ∧ Wk E h' kc' kn' pc' ls' st' ∧ ∀ t, Steps p.tables e below (T'.setTop (mkF m pc' ls' st')) t → Steps p.tables e below (T.setTop (mkF m pc ls st)) t) : Wk E h kc kn pc ls st := by
  obtain ⟨p, e, s, m, args, below, meth, c, rfl, F⟩ := K
  intro T locs vm0 k0 X hS hk0 eT N hV
  obtain ⟨T', locs', h', kc', kn', pc', ls', st', X', e', N', hgr, k, q'⟩ := f p e (s.setVm vm0) m args below meth c (F.at hS) T locs X eT N
  obtain ⟨s₂, o, q, r⟩ := k T' locs' vm0 k0 X' hS (Nat.le_trans hk0 hgr) e' N' (hF _ _ _ hV)
  exact ⟨s₂, o, q' _ q, r⟩

theorem Kx.aloadN (K : Kx E y bytes ml rt l Z R n0 Q V) {k : Fin 4} {v : Value} (hd : Dc bytes pc (.aload_n k) 1 pc') (hl : ls[k.val]? = some (.val v)) (hv : v.isRef = true) (k : Wk E h kc kn pc' ls (v :: st)) : Wk E h kc kn pc ls st := by
  obtain ⟨hd, rfl⟩ := hd
  exact K.lift (fun p e s m args below meth c F T locs X eT t q => XS.aloadN X.here F.1 rfl (hb F.2.1 hd) hl hv q) k
theorem Kx.iloadN (K : Kx E y bytes ml rt l Z R n0 Q V) {k : Fin 4} {v : Int32} (hd : Dc bytes pc (.iload_n k) 1 pc') (hl : ls[k.val]? = some (.val (.int v))) (k : Wk E h kc kn pc' ls (.int v :: st)) : Wk E h kc kn pc ls st := by
  obtain ⟨hd, rfl⟩ := hd
  exact K.lift (fun p e s m args below meth c F T locs X eT t q => XS.iloadN X.here F.1 rfl (hb F.2.1 hd) hl q) k
theorem Kx.lloadN (K : Kx E y bytes ml rt l Z R n0 Q V) {k : Fin 4} {v : Int64} (hd : Dc bytes pc (.lload_n k) 1 pc') (hl : ls[k.val]? = some (.val (.long v))) (k : Wk E h kc kn pc' ls (.long v :: st)) : Wk E h kc kn pc ls st := by
  obtain ⟨hd, rfl⟩ := hd
  exact K.lift (fun p e s m args below meth c F T locs X eT t q => XS.lloadN X.here F.1 rfl (hb F.2.1 hd) hl q) k
theorem Kx.istoreN (K : Kx E y bytes ml rt l Z R n0 Q V) {k : Fin 4} {x : Int32} (ls' : Array Slot) (hd : Dc bytes pc (.istore_n k) 1 pc') (hl : storeLocals ls k.val (.int x) = some ls') (k : Wk E h kc kn pc' ls' st) : Wk E h kc kn pc ls (.int x :: st) := by
  obtain ⟨hd, rfl⟩ := hd
  exact K.lift (fun p e s m args below meth c F T locs X eT t q => XS.istoreN X.here F.1 rfl (hb F.2.1 hd) rfl hl q) k
theorem Kx.lstoreN (K : Kx E y bytes ml rt l Z R n0 Q V) {k : Fin 4} {x : Int64} (ls' : Array Slot) (hd : Dc bytes pc (.lstore_n k) 1 pc') (hl : storeLocals ls k.val (.long x) = some ls') (k : Wk E h kc kn pc' ls' st) : Wk E h kc kn pc ls (.long x :: st) := by
  obtain ⟨hd, rfl⟩ := hd
  exact K.lift (fun p e s m args below meth c F T locs X eT t q => XS.lstoreN X.here F.1 rfl (hb F.2.1 hd) rfl hl q) k
theorem Kx.astoreN (K : Kx E y bytes ml rt l Z R n0 Q V) {k : Fin 4} {x : Value} (ls' : Array Slot) (hd : Dc bytes pc (.astore_n k) 1 pc') (hv : x.isRef = true) (hl : storeLocals ls k.val x = some ls') (k : Wk E h kc kn pc' ls' st) : Wk E h kc kn pc ls (x :: st) := by
  obtain ⟨hd, rfl⟩ := hd
  exact K.lift (fun p e s m args below meth c F T locs X eT t q => XS.astoreN X.here F.1 rfl (hb F.2.1 hd) rfl hv hl q) k
theorem Kx.aload (K : Kx E y bytes ml rt l Z R n0 Q V) {k : Nat} {v : Value} (hd : Dc bytes pc (.aload k) 2 pc') (hl : ls[k]? = some (.val v)) (hv : v.isRef = true) (k : Wk E h kc kn pc' ls (v :: st)) : Wk E h kc kn pc ls st := by
  obtain ⟨hd, rfl⟩ := hd
  exact K.lift (fun p e s m args below meth c F T locs X eT t q => XS.aload X.here F.1 rfl (hb F.2.1 hd) hl hv q) k
theorem Kx.iload (K : Kx E y bytes ml rt l Z R n0 Q V) {k : Nat} {v : Int32} (hd : Dc bytes pc (.iload k) 2 pc') (hl : ls[k]? = some (.val (.int v))) (k : Wk E h kc kn pc' ls (.int v :: st)) : Wk E h kc kn pc ls st := by
  obtain ⟨hd, rfl⟩ := hd
  exact K.lift (fun p e s m args below meth c F T locs X eT t q => XS.iload X.here F.1 rfl (hb F.2.1 hd) hl q) k
theorem Kx.lload (K : Kx E y bytes ml rt l Z R n0 Q V) {k : Nat} {v : Int64} (hd : Dc bytes pc (.lload k) 2 pc') (hl : ls[k]? = some (.val (.long v))) (k : Wk E h kc kn pc' ls (.long v :: st)) : Wk E h kc kn pc ls st := by
  obtain ⟨hd, rfl⟩ := hd
  exact K.lift (fun p e s m args below meth c F T locs X eT t q => XS.lload X.here F.1 rfl (hb F.2.1 hd) hl q) k
theorem Kx.istore (K : Kx E y bytes ml rt l Z R n0 Q V) {k : Nat} {x : Int32} (ls' : Array Slot) (hd : Dc bytes pc (.istore k) 2 pc') (hl : storeLocals ls k (.int x) = some ls') (k : Wk E h kc kn pc' ls' st) : Wk E h kc kn pc ls (.int x :: st) := by
  obtain ⟨hd, rfl⟩ := hd
  exact K.lift (fun p e s m args below meth c F T locs X eT t q => XS.istore X.here F.1 rfl (hb F.2.1 hd) rfl hl q) k
theorem Kx.lstore (K : Kx E y bytes ml rt l Z R n0 Q V) {k : Nat} {x : Int64} (ls' : Array Slot) (hd : Dc bytes pc (.lstore k) 2 pc') (hl : storeLocals ls k (.long x) = some ls') (k : Wk E h kc kn pc' ls' st) : Wk E h kc kn pc ls (.long x :: st) := by
  obtain ⟨hd, rfl⟩ := hd
  exact K.lift (fun p e s m args below meth c F T locs X eT t q => XS.lstore X.here F.1 rfl (hb F.2.1 hd) rfl hl q) k
theorem Kx.astore (K : Kx E y bytes ml rt l Z R n0 Q V) {k : Nat} {x : Value} (ls' : Array Slot) (hd : Dc bytes pc (.astore k) 2 pc') (hv : x.isRef = true) (hl : storeLocals ls k x = some ls') (k : Wk E h kc kn pc' ls' st) : Wk E h kc kn pc ls (x :: st) := by
  obtain ⟨hd, rfl⟩ := hd
  exact K.lift (fun p e s m args below meth c F T locs X eT t q => XS.astore X.here F.1 rfl (hb F.2.1 hd) rfl hv hl q) k
theorem Kx.iinc (K : Kx E y bytes ml rt l Z R n0 Q V) {k : Nat} {cst : Int} {x : Int32} (z : Int32) (ls' : Array Slot) (hd : Dc bytes pc (.iinc k cst) 3 pc') (hl : ls[k]? = some (.val (.int x))) (hz : x + Int32.ofInt cst = z) (hl' : storeLocals ls k (.int z) = some ls') (k : Wk E h kc kn pc' ls' st) : Wk E h kc kn pc ls st := by
  obtain ⟨hd, rfl⟩ := hd
  exact K.lift (fun p e s m args below meth c F T locs X eT t q => XS.iinc X.here F.1 rfl (hb F.2.1 hd) hl (by rw [hz]; exact hl') q) k
theorem Kx.iconst (K : Kx E y bytes ml rt l Z R n0 Q V) {i : Int} (z : Int32) (hd : Dc bytes pc (.iconst i) 1 pc') (hz : Int32.ofInt i = z) (k : Wk E h kc kn pc' ls (.int z :: st)) : Wk E h kc kn pc ls st := by
  obtain ⟨hd, rfl⟩ := hd
  exact K.lift (fun p e s m args below meth c F T locs X eT t q => XS.iconst X.here F.1 rfl (hb F.2.1 hd) (by rw [hz]; exact q)) k
theorem Kx.lconst (K : Kx E y bytes ml rt l Z R n0 Q V) {i : Fin 2} (z : Int64) (hd : Dc bytes pc (.lconst i) 1 pc') (hz : Int64.ofNat i = z) (k : Wk E h kc kn pc' ls (.long z :: st)) : Wk E h kc kn pc ls st := by
  obtain ⟨hd, rfl⟩ := hd
  exact K.lift (fun p e s m args below meth c F T locs X eT t q => XS.lconst X.here F.1 rfl (hb F.2.1 hd) (by rw [hz]; exact q)) k
theorem Kx.bipush (K : Kx E y bytes ml rt l Z R n0 Q V) {i : Int} (z : Int32) (hd : Dc bytes pc (.bipush i) 2 pc') (hz : (Int8.ofInt i).toInt32 = z) (k : Wk E h kc kn pc' ls (.int z :: st)) : Wk E h kc kn pc ls st := by
  obtain ⟨hd, rfl⟩ := hd
  exact K.lift (fun p e s m args below meth c F T locs X eT t q => XS.bipush X.here F.1 rfl (hb F.2.1 hd) (by rw [hz]; exact q)) k
theorem Kx.sipush (K : Kx E y bytes ml rt l Z R n0 Q V) {i : Int} (z : Int32) (hd : Dc bytes pc (.sipush i) 3 pc') (hz : (Int16.ofInt i).toInt32 = z) (k : Wk E h kc kn pc' ls (.int z :: st)) : Wk E h kc kn pc ls st := by
  obtain ⟨hd, rfl⟩ := hd
  exact K.lift (fun p e s m args below meth c F T locs X eT t q => XS.sipush X.here F.1 rfl (hb F.2.1 hd) (by rw [hz]; exact q)) k
theorem Kx.aconst_null (K : Kx E y bytes ml rt l Z R n0 Q V)  (hd : Dc bytes pc .aconst_null 1 pc') (k : Wk E h kc kn pc' ls (.null :: st)) : Wk E h kc kn pc ls st := by
  obtain ⟨hd, rfl⟩ := hd
  exact K.lift (fun p e s m args below meth c F T locs X eT t q => XS.aconstNull X.here F.1 rfl (hb F.2.1 hd) q) k
theorem Kx.iadd (K : Kx E y bytes ml rt l Z R n0 Q V) {x y' : Int32} (hd : Dc bytes pc .iadd 1 pc') (k : Wk E h kc kn pc' ls (.int (x + y') :: st)) : Wk E h kc kn pc ls (.int y' :: .int x :: st) := by
  obtain ⟨hd, rfl⟩ := hd
  exact K.lift (fun p e s m args below meth c F T locs X eT t q => XS.iadd X.here F.1 rfl (hb F.2.1 hd) rfl q) k
theorem Kx.isub (K : Kx E y bytes ml rt l Z R n0 Q V) {x y' : Int32} (hd : Dc bytes pc .isub 1 pc') (k : Wk E h kc kn pc' ls (.int (x - y') :: st)) : Wk E h kc kn pc ls (.int y' :: .int x :: st) := by
  obtain ⟨hd, rfl⟩ := hd
  exact K.lift (fun p e s m args below meth c F T locs X eT t q => XS.isub X.here F.1 rfl (hb F.2.1 hd) rfl q) k
theorem Kx.imul (K : Kx E y bytes ml rt l Z R n0 Q V) {x y' : Int32} (hd : Dc bytes pc .imul 1 pc') (k : Wk E h kc kn pc' ls (.int (x * y') :: st)) : Wk E h kc kn pc ls (.int y' :: .int x :: st) := by
  obtain ⟨hd, rfl⟩ := hd
  exact K.lift (fun p e s m args below meth c F T locs X eT t q => XS.imul X.here F.1 rfl (hb F.2.1 hd) rfl q) k
theorem Kx.iand (K : Kx E y bytes ml rt l Z R n0 Q V) {x y' : Int32} (hd : Dc bytes pc .iand 1 pc') (k : Wk E h kc kn pc' ls (.int (x &&& y') :: st)) : Wk E h kc kn pc ls (.int y' :: .int x :: st) := by
  obtain ⟨hd, rfl⟩ := hd
  exact K.lift (fun p e s m args below meth c F T locs X eT t q => XS.iand X.here F.1 rfl (hb F.2.1 hd) rfl q) k
theorem Kx.ior (K : Kx E y bytes ml rt l Z R n0 Q V) {x y' : Int32} (hd : Dc bytes pc .ior 1 pc') (k : Wk E h kc kn pc' ls (.int (x ||| y') :: st)) : Wk E h kc kn pc ls (.int y' :: .int x :: st) := by
  obtain ⟨hd, rfl⟩ := hd
  exact K.lift (fun p e s m args below meth c F T locs X eT t q => XS.ior X.here F.1 rfl (hb F.2.1 hd) rfl q) k
theorem Kx.ixor (K : Kx E y bytes ml rt l Z R n0 Q V) {x y' : Int32} (hd : Dc bytes pc .ixor 1 pc') (k : Wk E h kc kn pc' ls (.int (x ^^^ y') :: st)) : Wk E h kc kn pc ls (.int y' :: .int x :: st) := by
  obtain ⟨hd, rfl⟩ := hd
  exact K.lift (fun p e s m args below meth c F T locs X eT t q => XS.ixor X.here F.1 rfl (hb F.2.1 hd) rfl q) k
theorem Kx.ishl (K : Kx E y bytes ml rt l Z R n0 Q V) {x y' : Int32} (hd : Dc bytes pc .ishl 1 pc') (k : Wk E h kc kn pc' ls (.int (x <<< (y' &&& 31)) :: st)) : Wk E h kc kn pc ls (.int y' :: .int x :: st) := by
  obtain ⟨hd, rfl⟩ := hd
  exact K.lift (fun p e s m args below meth c F T locs X eT t q => XS.ishl X.here F.1 rfl (hb F.2.1 hd) rfl q) k
theorem Kx.ishr (K : Kx E y bytes ml rt l Z R n0 Q V) {x y' : Int32} (hd : Dc bytes pc .ishr 1 pc') (k : Wk E h kc kn pc' ls (.int (x >>> (y' &&& 31)) :: st)) : Wk E h kc kn pc ls (.int y' :: .int x :: st) := by
  obtain ⟨hd, rfl⟩ := hd
  exact K.lift (fun p e s m args below meth c F T locs X eT t q => XS.ishr X.here F.1 rfl (hb F.2.1 hd) rfl q) k
theorem Kx.iushr (K : Kx E y bytes ml rt l Z R n0 Q V) {x y' : Int32} (hd : Dc bytes pc .iushr 1 pc') (k : Wk E h kc kn pc' ls (.int ((x.toUInt32 >>> (y' &&& 31).toUInt32).toInt32) :: st)) : Wk E h kc kn pc ls (.int y' :: .int x :: st) := by
  obtain ⟨hd, rfl⟩ := hd
  exact K.lift (fun p e s m args below meth c F T locs X eT t q => XS.iushr X.here F.1 rfl (hb F.2.1 hd) rfl q) k
theorem Kx.ladd (K : Kx E y bytes ml rt l Z R n0 Q V) {x y' : Int64} (hd : Dc bytes pc .ladd 1 pc') (k : Wk E h kc kn pc' ls (.long (x + y') :: st)) : Wk E h kc kn pc ls (.long y' :: .long x :: st) := by
  obtain ⟨hd, rfl⟩ := hd
  exact K.lift (fun p e s m args below meth c F T locs X eT t q => XS.ladd X.here F.1 rfl (hb F.2.1 hd) rfl q) k
theorem Kx.lsub (K : Kx E y bytes ml rt l Z R n0 Q V) {x y' : Int64} (hd : Dc bytes pc .lsub 1 pc') (k : Wk E h kc kn pc' ls (.long (x - y') :: st)) : Wk E h kc kn pc ls (.long y' :: .long x :: st) := by
  obtain ⟨hd, rfl⟩ := hd
  exact K.lift (fun p e s m args below meth c F T locs X eT t q => XS.lsub X.here F.1 rfl (hb F.2.1 hd) rfl q) k
theorem Kx.lmul (K : Kx E y bytes ml rt l Z R n0 Q V) {x y' : Int64} (hd : Dc bytes pc .lmul 1 pc') (k : Wk E h kc kn pc' ls (.long (x * y') :: st)) : Wk E h kc kn pc ls (.long y' :: .long x :: st) := by
  obtain ⟨hd, rfl⟩ := hd
  exact K.lift (fun p e s m args below meth c F T locs X eT t q => XS.lmul X.here F.1 rfl (hb F.2.1 hd) rfl q) k
theorem Kx.land (K : Kx E y bytes ml rt l Z R n0 Q V) {x y' : Int64} (hd : Dc bytes pc .land 1 pc') (k : Wk E h kc kn pc' ls (.long (x &&& y') :: st)) : Wk E h kc kn pc ls (.long y' :: .long x :: st) := by
  obtain ⟨hd, rfl⟩ := hd
  exact K.lift (fun p e s m args below meth c F T locs X eT t q => XS.land X.here F.1 rfl (hb F.2.1 hd) rfl q) k
theorem Kx.lor (K : Kx E y bytes ml rt l Z R n0 Q V) {x y' : Int64} (hd : Dc bytes pc .lor 1 pc') (k : Wk E h kc kn pc' ls (.long (x ||| y') :: st)) : Wk E h kc kn pc ls (.long y' :: .long x :: st) := by
  obtain ⟨hd, rfl⟩ := hd
  exact K.lift (fun p e s m args below meth c F T locs X eT t q => XS.lor X.here F.1 rfl (hb F.2.1 hd) rfl q) k
theorem Kx.lxor (K : Kx E y bytes ml rt l Z R n0 Q V) {x y' : Int64} (hd : Dc bytes pc .lxor 1 pc') (k : Wk E h kc kn pc' ls (.long (x ^^^ y') :: st)) : Wk E h kc kn pc ls (.long y' :: .long x :: st) := by
  obtain ⟨hd, rfl⟩ := hd
  exact K.lift (fun p e s m args below meth c F T locs X eT t q => XS.lxor X.here F.1 rfl (hb F.2.1 hd) rfl q) k
theorem Kx.lshl (K : Kx E y bytes ml rt l Z R n0 Q V) {x : Int64} {y' : Int32} (hd : Dc bytes pc .lshl 1 pc') (k : Wk E h kc kn pc' ls (.long (x <<< (y' &&& 63).toInt64) :: st)) : Wk E h kc kn pc ls (.int y' :: .long x :: st) := by
  obtain ⟨hd, rfl⟩ := hd
  exact K.lift (fun p e s m args below meth c F T locs X eT t q => XS.lshl X.here F.1 rfl (hb F.2.1 hd) rfl q) k
theorem Kx.lshr (K : Kx E y bytes ml rt l Z R n0 Q V) {x : Int64} {y' : Int32} (hd : Dc bytes pc .lshr 1 pc') (k : Wk E h kc kn pc' ls (.long (x >>> (y' &&& 63).toInt64) :: st)) : Wk E h kc kn pc ls (.int y' :: .long x :: st) := by
  obtain ⟨hd, rfl⟩ := hd
  exact K.lift (fun p e s m args below meth c F T locs X eT t q => XS.lshr X.here F.1 rfl (hb F.2.1 hd) rfl q) k
theorem Kx.lushr (K : Kx E y bytes ml rt l Z R n0 Q V) {x : Int64} {y' : Int32} (hd : Dc bytes pc .lushr 1 pc') (k : Wk E h kc kn pc' ls (.long ((x.toUInt64 >>> (y' &&& 63).toInt64.toUInt64).toInt64) :: st)) : Wk E h kc kn pc ls (.int y' :: .long x :: st) := by
  obtain ⟨hd, rfl⟩ := hd
  exact K.lift (fun p e s m args below meth c F T locs X eT t q => XS.lushr X.here F.1 rfl (hb F.2.1 hd) rfl q) k
theorem Kx.idiv (K : Kx E y bytes ml rt l Z R n0 Q V) {x y' : Int32} (hd : Dc bytes pc .idiv 1 pc') (hy : y' ≠ 0) (k : Wk E h kc kn pc' ls (.int (x / y') :: st)) : Wk E h kc kn pc ls (.int y' :: .int x :: st) := by
  obtain ⟨hd, rfl⟩ := hd
  exact K.lift (fun p e s m args below meth c F T locs X eT t q => XS.idiv X.here F.1 rfl (hb F.2.1 hd) rfl hy q) k
theorem Kx.irem (K : Kx E y bytes ml rt l Z R n0 Q V) {x y' : Int32} (hd : Dc bytes pc .irem 1 pc') (hy : y' ≠ 0) (k : Wk E h kc kn pc' ls (.int (x % y') :: st)) : Wk E h kc kn pc ls (.int y' :: .int x :: st) := by
  obtain ⟨hd, rfl⟩ := hd
  exact K.lift (fun p e s m args below meth c F T locs X eT t q => RoadKit.iremM X F.1 rfl (hb F.2.1 hd) rfl hy q) k
theorem Kx.ldiv (K : Kx E y bytes ml rt l Z R n0 Q V) {x y' : Int64} (hd : Dc bytes pc .ldiv 1 pc') (hy : y' ≠ 0) (k : Wk E h kc kn pc' ls (.long (x / y') :: st)) : Wk E h kc kn pc ls (.long y' :: .long x :: st) := by
  obtain ⟨hd, rfl⟩ := hd
  exact K.lift (fun p e s m args below meth c F T locs X eT t q => XS.ldiv X.here F.1 rfl (hb F.2.1 hd) rfl hy q) k
theorem Kx.lrem (K : Kx E y bytes ml rt l Z R n0 Q V) {x y' : Int64} (hd : Dc bytes pc .lrem 1 pc') (hy : y' ≠ 0) (k : Wk E h kc kn pc' ls (.long (x % y') :: st)) : Wk E h kc kn pc ls (.long y' :: .long x :: st) := by
  obtain ⟨hd, rfl⟩ := hd
  exact K.lift (fun p e s m args below meth c F T locs X eT t q => XS.lrem X.here F.1 rfl (hb F.2.1 hd) rfl hy (by rw [lrem_mod]; exact q)) k
theorem Kx.ineg (K : Kx E y bytes ml rt l Z R n0 Q V) {x : Int32} (hd : Dc bytes pc .ineg 1 pc') (k : Wk E h kc kn pc' ls (.int (-x) :: st)) : Wk E h kc kn pc ls (.int x :: st) := by
  obtain ⟨hd, rfl⟩ := hd
  exact K.lift (fun p e s m args below meth c F T locs X eT t q => XS.ineg X.here F.1 rfl (hb F.2.1 hd) rfl q) k
theorem Kx.lneg (K : Kx E y bytes ml rt l Z R n0 Q V) {x : Int64} (hd : Dc bytes pc .lneg 1 pc') (k : Wk E h kc kn pc' ls (.long (-x) :: st)) : Wk E h kc kn pc ls (.long x :: st) := by
  obtain ⟨hd, rfl⟩ := hd
  exact K.lift (fun p e s m args below meth c F T locs X eT t q => XS.lneg X.here F.1 rfl (hb F.2.1 hd) rfl q) k
theorem Kx.i2l (K : Kx E y bytes ml rt l Z R n0 Q V) {x : Int32} (hd : Dc bytes pc .i2l 1 pc') (k : Wk E h kc kn pc' ls (.long (x.toInt64) :: st)) : Wk E h kc kn pc ls (.int x :: st) := by
  obtain ⟨hd, rfl⟩ := hd
  exact K.lift (fun p e s m args below meth c F T locs X eT t q => XS.i2l X.here F.1 rfl (hb F.2.1 hd) rfl q) k
theorem Kx.l2i (K : Kx E y bytes ml rt l Z R n0 Q V) {x : Int64} (hd : Dc bytes pc .l2i 1 pc') (k : Wk E h kc kn pc' ls (.int (x.toInt32) :: st)) : Wk E h kc kn pc ls (.long x :: st) := by
  obtain ⟨hd, rfl⟩ := hd
  exact K.lift (fun p e s m args below meth c F T locs X eT t q => XS.l2i X.here F.1 rfl (hb F.2.1 hd) rfl q) k
theorem Kx.i2b (K : Kx E y bytes ml rt l Z R n0 Q V) {x : Int32} (hd : Dc bytes pc .i2b 1 pc') (k : Wk E h kc kn pc' ls (.int (x.toInt8.toInt32) :: st)) : Wk E h kc kn pc ls (.int x :: st) := by
  obtain ⟨hd, rfl⟩ := hd
  exact K.lift (fun p e s m args below meth c F T locs X eT t q => XS.i2b X.here F.1 rfl (hb F.2.1 hd) rfl q) k
theorem Kx.i2c (K : Kx E y bytes ml rt l Z R n0 Q V) {x : Int32} (hd : Dc bytes pc .i2c 1 pc') (k : Wk E h kc kn pc' ls (.int (x.toUInt32.toUInt16.toUInt32.toInt32) :: st)) : Wk E h kc kn pc ls (.int x :: st) := by
  obtain ⟨hd, rfl⟩ := hd
  exact K.lift (fun p e s m args below meth c F T locs X eT t q => XS.i2c X.here F.1 rfl (hb F.2.1 hd) rfl q) k
theorem Kx.i2s (K : Kx E y bytes ml rt l Z R n0 Q V) {x : Int32} (hd : Dc bytes pc .i2s 1 pc') (k : Wk E h kc kn pc' ls (.int (x.toInt16.toInt32) :: st)) : Wk E h kc kn pc ls (.int x :: st) := by
  obtain ⟨hd, rfl⟩ := hd
  exact K.lift (fun p e s m args below meth c F T locs X eT t q => XS.i2s X.here F.1 rfl (hb F.2.1 hd) rfl q) k
theorem Kx.dup (K : Kx E y bytes ml rt l Z R n0 Q V) {x : Value} (hd : Dc bytes pc .dup 1 pc') (hc : x.category = 1) (k : Wk E h kc kn pc' ls (x :: x :: st)) : Wk E h kc kn pc ls (x :: st) := by
  obtain ⟨hd, rfl⟩ := hd
  exact K.lift (fun p e s m args below meth c F T locs X eT t q => XS.dup X.here F.1 rfl (hb F.2.1 hd) rfl hc q) k
theorem Kx.pop (K : Kx E y bytes ml rt l Z R n0 Q V) {x : Value} (hd : Dc bytes pc .pop 1 pc') (hc : x.category = 1) (k : Wk E h kc kn pc' ls st) : Wk E h kc kn pc ls (x :: st) := by
  obtain ⟨hd, rfl⟩ := hd
  exact K.lift (fun p e s m args below meth c F T locs X eT t q => XS.pop X.here F.1 rfl (hb F.2.1 hd) rfl hc q) k
theorem Kx.dup_x1 (K : Kx E y bytes ml rt l Z R n0 Q V) {x x' : Value} (hd : Dc bytes pc .dup_x1 1 pc') (hc : x.category = 1) (hc' : x'.category = 1) (k : Wk E h kc kn pc' ls (x :: x' :: x :: st)) : Wk E h kc kn pc ls (x :: x' :: st) := by
  obtain ⟨hd, rfl⟩ := hd
  exact K.lift (fun p e s m args below meth c F T locs X eT t q => XS.dupX1 X.here F.1 rfl (hb F.2.1 hd) rfl hc hc' q) k
theorem Kx.dup2 (K : Kx E y bytes ml rt l Z R n0 Q V) {x x' : Value} (hd : Dc bytes pc .dup2 1 pc') (hc : x.category = 1) (hc' : x'.category = 1) (k : Wk E h kc kn pc' ls (x :: x' :: x :: x' :: st)) : Wk E h kc kn pc ls (x :: x' :: st) := by
  obtain ⟨hd, rfl⟩ := hd
  exact K.lift (fun p e s m args below meth c F T locs X eT t q => Jvm.Free.XT.dup2 X.here F.1 rfl (hb F.2.1 hd) rfl hc hc' q) k
theorem Kx.ldcI (K : Kx E y bytes ml rt l Z R n0 Q V) {i : Nat} {v : Int32} (hd : Dc bytes pc (.ldc i) 2 pc') (w : (Jvm.Cond.constant y.cls i v).before a0 Z = true) (k : Wk E h kc kn pc' ls (.int v :: st)) : Wk E h kc kn pc ls st := by
  obtain ⟨hd, rfl⟩ := hd
  exact K.lift (fun p e s m args below meth c F T locs X eT t q => X.ldcI F.1 F.2.2.2.2.2.2.1 (mvT F.2.2.2.2.2.1 w) rfl (hb F.2.1 hd) q) k
theorem Kx.ldc2J (K : Kx E y bytes ml rt l Z R n0 Q V) {i : Nat} {v : Int64} (hd : Dc bytes pc (.ldc2_w i) 3 pc') (w : (Jvm.Cond.constantLong y.cls i v).before a0 Z = true) (k : Wk E h kc kn pc' ls (.long v :: st)) : Wk E h kc kn pc ls st := by
  obtain ⟨hd, rfl⟩ := hd
  exact K.lift (fun p e s m args below meth c F T locs X eT t q => X.ldc2J F.1 F.2.2.2.2.2.2.1 (mvT F.2.2.2.2.2.1 w) rfl (hb F.2.1 hd) q) k
theorem Kx.goto (K : Kx E y bytes ml rt l Z R n0 Q V) {o : Int} (hd : Db bytes pc (.goto o) o pc1 pc2) (k : Wk E h kc kn pc2 ls st) : Wk E h kc kn pc ls st := by
  obtain ⟨hd, -, h0, h1⟩ := hd
  exact K.lift (fun p e s m args below meth c F T locs X eT t q => XS.goto X.here F.1 rfl rfl (hb F.2.1 hd) h0 h1 q) k
theorem Kx.ic_eq (K : Kx E y bytes ml rt l Z R n0 Q V) {o : Int} {x y' : Int32} (hd : Db bytes pc (.if_icmp .eq o) o pc1 pc2) (k1 : x = y' → Wk E h kc kn pc2 ls st) (k2 : ¬ x = y' → Wk E h kc kn pc1 ls st) : Wk E h kc kn pc ls (.int y' :: .int x :: st) := by
  obtain ⟨hd, rfl, h0, h1⟩ := hd
  by_cases u : x = y'
  · exact K.lift (fun p e s m args below meth c F T locs X eT t q => XS.icmpYes X.here F.1 rfl rfl (hb F.2.1 hd) rfl (teq u).1 h0 h1 q) (k1 u)
  · exact K.lift (fun p e s m args below meth c F T locs X eT t q => XS.icmpNo X.here F.1 rfl (hb F.2.1 hd) rfl (feq u).1 q) (k2 u)
theorem Kx.if_eq (K : Kx E y bytes ml rt l Z R n0 Q V) {o : Int} {x : Int32} (hd : Db bytes pc (.ifCond .eq o) o pc1 pc2) (k1 : x = 0 → Wk E h kc kn pc2 ls st) (k2 : ¬ x = 0 → Wk E h kc kn pc1 ls st) : Wk E h kc kn pc ls (.int x :: st) := by
  obtain ⟨hd, rfl, h0, h1⟩ := hd
  by_cases u : x = 0
  · exact K.lift (fun p e s m args below meth c F T locs X eT t q => XS.ifYes X.here F.1 rfl rfl (hb F.2.1 hd) rfl ((if0 _ _).trans (teq u).1) h0 h1 q) (k1 u)
  · exact K.lift (fun p e s m args below meth c F T locs X eT t q => XS.ifNo X.here F.1 rfl (hb F.2.1 hd) rfl ((if0 _ _).trans (feq u).1) q) (k2 u)
theorem Kx.ic_ne (K : Kx E y bytes ml rt l Z R n0 Q V) {o : Int} {x y' : Int32} (hd : Db bytes pc (.if_icmp .ne o) o pc1 pc2) (k1 : x = y' → Wk E h kc kn pc1 ls st) (k2 : ¬ x = y' → Wk E h kc kn pc2 ls st) : Wk E h kc kn pc ls (.int y' :: .int x :: st) := by
  obtain ⟨hd, rfl, h0, h1⟩ := hd
  by_cases u : x = y'
  · exact K.lift (fun p e s m args below meth c F T locs X eT t q => XS.icmpNo X.here F.1 rfl (hb F.2.1 hd) rfl (teq u).2 q) (k1 u)
  · exact K.lift (fun p e s m args below meth c F T locs X eT t q => XS.icmpYes X.here F.1 rfl rfl (hb F.2.1 hd) rfl (feq u).2 h0 h1 q) (k2 u)
theorem Kx.if_ne (K : Kx E y bytes ml rt l Z R n0 Q V) {o : Int} {x : Int32} (hd : Db bytes pc (.ifCond .ne o) o pc1 pc2) (k1 : x = 0 → Wk E h kc kn pc1 ls st) (k2 : ¬ x = 0 → Wk E h kc kn pc2 ls st) : Wk E h kc kn pc ls (.int x :: st) := by
  obtain ⟨hd, rfl, h0, h1⟩ := hd
  by_cases u : x = 0
  · exact K.lift (fun p e s m args below meth c F T locs X eT t q => XS.ifNo X.here F.1 rfl (hb F.2.1 hd) rfl ((if0 _ _).trans (teq u).2) q) (k1 u)
  · exact K.lift (fun p e s m args below meth c F T locs X eT t q => XS.ifYes X.here F.1 rfl rfl (hb F.2.1 hd) rfl ((if0 _ _).trans (feq u).2) h0 h1 q) (k2 u)
theorem Kx.ic_lt (K : Kx E y bytes ml rt l Z R n0 Q V) {o : Int} {x y' : Int32} (hd : Db bytes pc (.if_icmp .lt o) o pc1 pc2) (k1 : x < y' → Wk E h kc kn pc2 ls st) (k2 : ¬ x < y' → Wk E h kc kn pc1 ls st) : Wk E h kc kn pc ls (.int y' :: .int x :: st) := by
  obtain ⟨hd, rfl, h0, h1⟩ := hd
  by_cases u : x < y'
  · exact K.lift (fun p e s m args below meth c F T locs X eT t q => XS.icmpYes X.here F.1 rfl rfl (hb F.2.1 hd) rfl (tlt u).1 h0 h1 q) (k1 u)
  · exact K.lift (fun p e s m args below meth c F T locs X eT t q => XS.icmpNo X.here F.1 rfl (hb F.2.1 hd) rfl (flt u).1 q) (k2 u)
theorem Kx.if_lt (K : Kx E y bytes ml rt l Z R n0 Q V) {o : Int} {x : Int32} (hd : Db bytes pc (.ifCond .lt o) o pc1 pc2) (k1 : x < 0 → Wk E h kc kn pc2 ls st) (k2 : ¬ x < 0 → Wk E h kc kn pc1 ls st) : Wk E h kc kn pc ls (.int x :: st) := by
  obtain ⟨hd, rfl, h0, h1⟩ := hd
  by_cases u : x < 0
  · exact K.lift (fun p e s m args below meth c F T locs X eT t q => XS.ifYes X.here F.1 rfl rfl (hb F.2.1 hd) rfl ((if0 _ _).trans (tlt u).1) h0 h1 q) (k1 u)
  · exact K.lift (fun p e s m args below meth c F T locs X eT t q => XS.ifNo X.here F.1 rfl (hb F.2.1 hd) rfl ((if0 _ _).trans (flt u).1) q) (k2 u)
theorem Kx.ic_ge (K : Kx E y bytes ml rt l Z R n0 Q V) {o : Int} {x y' : Int32} (hd : Db bytes pc (.if_icmp .ge o) o pc1 pc2) (k1 : x < y' → Wk E h kc kn pc1 ls st) (k2 : ¬ x < y' → Wk E h kc kn pc2 ls st) : Wk E h kc kn pc ls (.int y' :: .int x :: st) := by
  obtain ⟨hd, rfl, h0, h1⟩ := hd
  by_cases u : x < y'
  · exact K.lift (fun p e s m args below meth c F T locs X eT t q => XS.icmpNo X.here F.1 rfl (hb F.2.1 hd) rfl (tlt u).2.1 q) (k1 u)
  · exact K.lift (fun p e s m args below meth c F T locs X eT t q => XS.icmpYes X.here F.1 rfl rfl (hb F.2.1 hd) rfl (flt u).2.1 h0 h1 q) (k2 u)
theorem Kx.if_ge (K : Kx E y bytes ml rt l Z R n0 Q V) {o : Int} {x : Int32} (hd : Db bytes pc (.ifCond .ge o) o pc1 pc2) (k1 : x < 0 → Wk E h kc kn pc1 ls st) (k2 : ¬ x < 0 → Wk E h kc kn pc2 ls st) : Wk E h kc kn pc ls (.int x :: st) := by
  obtain ⟨hd, rfl, h0, h1⟩ := hd
  by_cases u : x < 0
  · exact K.lift (fun p e s m args below meth c F T locs X eT t q => XS.ifNo X.here F.1 rfl (hb F.2.1 hd) rfl ((if0 _ _).trans (tlt u).2.1) q) (k1 u)
  · exact K.lift (fun p e s m args below meth c F T locs X eT t q => XS.ifYes X.here F.1 rfl rfl (hb F.2.1 hd) rfl ((if0 _ _).trans (flt u).2.1) h0 h1 q) (k2 u)
theorem Kx.ic_gt (K : Kx E y bytes ml rt l Z R n0 Q V) {o : Int} {x y' : Int32} (hd : Db bytes pc (.if_icmp .gt o) o pc1 pc2) (k1 : y' < x → Wk E h kc kn pc2 ls st) (k2 : ¬ y' < x → Wk E h kc kn pc1 ls st) : Wk E h kc kn pc ls (.int y' :: .int x :: st) := by
  obtain ⟨hd, rfl, h0, h1⟩ := hd
  by_cases u : y' < x
  · exact K.lift (fun p e s m args below meth c F T locs X eT t q => XS.icmpYes X.here F.1 rfl rfl (hb F.2.1 hd) rfl (tlt u).2.2.1 h0 h1 q) (k1 u)
  · exact K.lift (fun p e s m args below meth c F T locs X eT t q => XS.icmpNo X.here F.1 rfl (hb F.2.1 hd) rfl (flt u).2.2.1 q) (k2 u)
theorem Kx.if_gt (K : Kx E y bytes ml rt l Z R n0 Q V) {o : Int} {x : Int32} (hd : Db bytes pc (.ifCond .gt o) o pc1 pc2) (k1 : 0 < x → Wk E h kc kn pc2 ls st) (k2 : ¬ 0 < x → Wk E h kc kn pc1 ls st) : Wk E h kc kn pc ls (.int x :: st) := by
  obtain ⟨hd, rfl, h0, h1⟩ := hd
  by_cases u : 0 < x
  · exact K.lift (fun p e s m args below meth c F T locs X eT t q => XS.ifYes X.here F.1 rfl rfl (hb F.2.1 hd) rfl ((if0 _ _).trans (tlt u).2.2.1) h0 h1 q) (k1 u)
  · exact K.lift (fun p e s m args below meth c F T locs X eT t q => XS.ifNo X.here F.1 rfl (hb F.2.1 hd) rfl ((if0 _ _).trans (flt u).2.2.1) q) (k2 u)
theorem Kx.ic_le (K : Kx E y bytes ml rt l Z R n0 Q V) {o : Int} {x y' : Int32} (hd : Db bytes pc (.if_icmp .le o) o pc1 pc2) (k1 : y' < x → Wk E h kc kn pc1 ls st) (k2 : ¬ y' < x → Wk E h kc kn pc2 ls st) : Wk E h kc kn pc ls (.int y' :: .int x :: st) := by
  obtain ⟨hd, rfl, h0, h1⟩ := hd
  by_cases u : y' < x
  · exact K.lift (fun p e s m args below meth c F T locs X eT t q => XS.icmpNo X.here F.1 rfl (hb F.2.1 hd) rfl (tlt u).2.2.2 q) (k1 u)
  · exact K.lift (fun p e s m args below meth c F T locs X eT t q => XS.icmpYes X.here F.1 rfl rfl (hb F.2.1 hd) rfl (flt u).2.2.2 h0 h1 q) (k2 u)
theorem Kx.if_le (K : Kx E y bytes ml rt l Z R n0 Q V) {o : Int} {x : Int32} (hd : Db bytes pc (.ifCond .le o) o pc1 pc2) (k1 : 0 < x → Wk E h kc kn pc1 ls st) (k2 : ¬ 0 < x → Wk E h kc kn pc2 ls st) : Wk E h kc kn pc ls (.int x :: st) := by
  obtain ⟨hd, rfl, h0, h1⟩ := hd
  by_cases u : 0 < x
  · exact K.lift (fun p e s m args below meth c F T locs X eT t q => XS.ifNo X.here F.1 rfl (hb F.2.1 hd) rfl ((if0 _ _).trans (tlt u).2.2.2) q) (k1 u)
  · exact K.lift (fun p e s m args below meth c F T locs X eT t q => XS.ifYes X.here F.1 rfl rfl (hb F.2.1 hd) rfl ((if0 _ _).trans (flt u).2.2.2) h0 h1 q) (k2 u)
theorem Kx.lcmp (K : Kx E y bytes ml rt l Z R n0 Q V) {x y' : Int64} (hd : Dc bytes pc .lcmp 1 pc') (k : Wk E h kc kn pc' ls (.int (lcmpW x y') :: st)) : Wk E h kc kn pc ls (.long y' :: .long x :: st) := by
  obtain ⟨hd, rfl⟩ := hd
  exact K.lift (fun p e s m args below meth c F T locs X eT t q => XS.lcmp X.here F.1 rfl (hb F.2.1 hd) rfl q) k
theorem Kx.lc_eq (K : Kx E y bytes ml rt l Z R n0 Q V) {o : Int} {x y' : Int64} {pcm : Nat} (hd0 : Dc bytes pc .lcmp 1 pcm) (hd : Db bytes pcm (.ifCond .eq o) o pc1 pc2) (k1 : x = y' → Wk E h kc kn pc2 ls st) (k2 : ¬ x = y' → Wk E h kc kn pc1 ls st) : Wk E h kc kn pc ls (.long y' :: .long x :: st) :=
  K.lcmp hd0 (K.if_eq hd (fun u => k1 ((lw_eq x y').mp u)) (fun u => k2 (fun v => u ((lw_eq x y').mpr v))))
theorem Kx.lc_ne (K : Kx E y bytes ml rt l Z R n0 Q V) {o : Int} {x y' : Int64} {pcm : Nat} (hd0 : Dc bytes pc .lcmp 1 pcm) (hd : Db bytes pcm (.ifCond .ne o) o pc1 pc2) (k1 : x = y' → Wk E h kc kn pc1 ls st) (k2 : ¬ x = y' → Wk E h kc kn pc2 ls st) : Wk E h kc kn pc ls (.long y' :: .long x :: st) :=
  K.lcmp hd0 (K.if_ne hd (fun u => k1 ((lw_eq x y').mp u)) (fun u => k2 (fun v => u ((lw_eq x y').mpr v))))
theorem Kx.lc_lt (K : Kx E y bytes ml rt l Z R n0 Q V) {o : Int} {x y' : Int64} {pcm : Nat} (hd0 : Dc bytes pc .lcmp 1 pcm) (hd : Db bytes pcm (.ifCond .lt o) o pc1 pc2) (k1 : x < y' → Wk E h kc kn pc2 ls st) (k2 : ¬ x < y' → Wk E h kc kn pc1 ls st) : Wk E h kc kn pc ls (.long y' :: .long x :: st) :=
  K.lcmp hd0 (K.if_lt hd (fun u => k1 ((lw_lt x y').mp u)) (fun u => k2 (fun v => u ((lw_lt x y').mpr v))))
theorem Kx.lc_ge (K : Kx E y bytes ml rt l Z R n0 Q V) {o : Int} {x y' : Int64} {pcm : Nat} (hd0 : Dc bytes pc .lcmp 1 pcm) (hd : Db bytes pcm (.ifCond .ge o) o pc1 pc2) (k1 : x < y' → Wk E h kc kn pc1 ls st) (k2 : ¬ x < y' → Wk E h kc kn pc2 ls st) : Wk E h kc kn pc ls (.long y' :: .long x :: st) :=
  K.lcmp hd0 (K.if_ge hd (fun u => k1 ((lw_lt x y').mp u)) (fun u => k2 (fun v => u ((lw_lt x y').mpr v))))
theorem Kx.lc_gt (K : Kx E y bytes ml rt l Z R n0 Q V) {o : Int} {x y' : Int64} {pcm : Nat} (hd0 : Dc bytes pc .lcmp 1 pcm) (hd : Db bytes pcm (.ifCond .gt o) o pc1 pc2) (k1 : y' < x → Wk E h kc kn pc2 ls st) (k2 : ¬ y' < x → Wk E h kc kn pc1 ls st) : Wk E h kc kn pc ls (.long y' :: .long x :: st) :=
  K.lcmp hd0 (K.if_gt hd (fun u => k1 ((lw_gt x y').mp u)) (fun u => k2 (fun v => u ((lw_gt x y').mpr v))))
theorem Kx.lc_le (K : Kx E y bytes ml rt l Z R n0 Q V) {o : Int} {x y' : Int64} {pcm : Nat} (hd0 : Dc bytes pc .lcmp 1 pcm) (hd : Db bytes pcm (.ifCond .le o) o pc1 pc2) (k1 : y' < x → Wk E h kc kn pc1 ls st) (k2 : ¬ y' < x → Wk E h kc kn pc2 ls st) : Wk E h kc kn pc ls (.long y' :: .long x :: st) :=
  K.lcmp hd0 (K.if_le hd (fun u => k1 ((lw_gt x y').mp u)) (fun u => k2 (fun v => u ((lw_gt x y').mpr v))))
theorem Kx.ifnull_null (K : Kx E y bytes ml rt l Z R n0 Q V) {o : Int} (hd : Db bytes pc (.ifnull o) o pc1 pc2) (k : Wk E h kc kn pc2 ls st) : Wk E h kc kn pc ls (.null :: st) := by
  obtain ⟨hd, -, h0, h1⟩ := hd
  exact K.lift (fun p e s m args below meth c F T locs X eT t q => XS.ifnullYes X.here F.1 rfl rfl (hb F.2.1 hd) rfl h0 h1 q) k
theorem Kx.ifnull_ref (K : Kx E y bytes ml rt l Z R n0 Q V) {o : Int} (hd : Db bytes pc (.ifnull o) o pc1 pc2) (k : Wk E h kc kn pc1 ls st) : Wk E h kc kn pc ls (.ref a :: st) := by
  obtain ⟨hd, rfl, h0, h1⟩ := hd
  exact K.lift (fun p e s m args below meth c F T locs X eT t q => XS.ifnullNo X.here F.1 rfl (hb F.2.1 hd) rfl q) k
theorem Kx.ifnonnull_ref (K : Kx E y bytes ml rt l Z R n0 Q V) {o : Int} (hd : Db bytes pc (.ifnonnull o) o pc1 pc2) (k : Wk E h kc kn pc2 ls st) : Wk E h kc kn pc ls (.ref a :: st) := by
  obtain ⟨hd, -, h0, h1⟩ := hd
  exact K.lift (fun p e s m args below meth c F T locs X eT t q => XS.ifnonnullYes X.here F.1 rfl rfl (hb F.2.1 hd) rfl h0 h1 q) k
theorem Kx.ifnonnull_null (K : Kx E y bytes ml rt l Z R n0 Q V) {o : Int} (hd : Db bytes pc (.ifnonnull o) o pc1 pc2) (k : Wk E h kc kn pc1 ls st) : Wk E h kc kn pc ls (.null :: st) := by
  obtain ⟨hd, rfl, h0, h1⟩ := hd
  exact K.lift (fun p e s m args below meth c F T locs X eT t q => XS.ifnonnullNo X.here F.1 rfl (hb F.2.1 hd) rfl q) k
theorem Kx.ldcF (K : Kx E y bytes ml rt l Z R n0 Q V) {i : Nat} {v : UInt32} (hd : Dc bytes pc (.ldc i) 2 pc') (w : (Jvm.Cond.constantFloat y.cls i v).before a0 Z = true) (k : Wk E h kc kn pc' ls (.float v :: st)) : Wk E h kc kn pc ls st := by
  obtain ⟨hd, rfl⟩ := hd
  exact K.lift (fun p e s m args below meth c F T locs X eT t q => X.ldcFloatC F.1 F.2.2.2.2.2.2.1 (mvT F.2.2.2.2.2.1 w) (g := mkF m pc ls st) rfl (hb F.2.1 hd) t q) k
/-- an array: its kind, its length, what each place holds -/
def Ia (Z : State) (h : Heap) (a : Addr) (ty : FieldType) (N : Int32) (f : Int32 → Value) : Prop := ∃ c : Cell, Arr Z h a c ty ∧ c.slots.size = N.toNatClampNeg ∧ ¬ N < 0 ∧ ∀ j : Int32, ¬ j < 0 → j < N → c.slots[j.toNatClampNeg]? = some (f j)
theorem Ia.lt {ty : FieldType} {N : Int32} {f : Int32 → Value} (F : Ia Z h a ty N f) : a < h.size := by obtain ⟨c, A, -⟩ := F; exact A.lt
theorem Ia.nn {ty : FieldType} {N : Int32} {f : Int32 → Value} (F : Ia Z h a ty N f) : ¬ N < 0 := by obtain ⟨c, -, -, q, -⟩ := F; exact q
theorem Ia.ext {ty : FieldType} {N : Int32} {f : Int32 → Value} (F : Ia Z h a ty N f) (X : Ext h h') : Ia Z h' a ty N f := by obtain ⟨c, A, r⟩ := F; exact ⟨c, A.ext X, r⟩
theorem Ia.other {ty : FieldType} {N : Int32} {f : Int32 → Value} {sl : Nat} {v : Value} (F : Ia Z h b ty N f) (W : Wr h h' a sl v) (q : b ≠ a) : Ia Z h' b ty N f := by obtain ⟨c, A, r⟩ := F; exact ⟨c, A.other W q, r⟩
theorem Ia.keep {ty : FieldType} {N : Int32} {f : Int32 → Value} {ws : List Addr} (F : Ia Z h a ty N f) (K : Keep h h' ws) (q : a ∉ ws) : Ia Z h' a ty N f := by obtain ⟨c, A, r⟩ := F; exact ⟨c, ⟨K.2.1 a c A.1 q, A.2⟩, r⟩
theorem Ia.congr {ty : FieldType} {N : Int32} {f g : Int32 → Value} (F : Ia Z h a ty N f) (q : ∀ j : Int32, ¬ j < 0 → j < N → f j = g j) : Ia Z h a ty N g := by
  obtain ⟨c, A, r1, r2, r3⟩ := F
  exact ⟨c, A, r1, r2, fun j h1 h2 => by rw [r3 j h1 h2, q j h1 h2]⟩
theorem Ia.set {ty : FieldType} {N j : Int32} {f : Int32 → Value} {v : Value} (F : Ia Z h a ty N f) (W : Wr h h' a j.toNatClampNeg v) (hj : ¬ j < 0) : Ia Z h' a ty N (fun k => if k = j then v else f k) := by
  obtain ⟨c, A, S, M, G⟩ := F
  refine ⟨_, A.same W, by rw [sz_set]; exact S, M, fun k h1 h2 => ?_⟩
  show _ = some (if k = j then v else f k)
  by_cases u : k = j
  · rw [if_pos u]; exact get_hit (inb_of S (u ▸ ⟨h1, h2⟩)) u
  · rw [if_neg u, get_miss hj h1 u]; exact G k h1 h2
theorem Ia.new {ty : FieldType} {N : Int32} {k : ClassId} (A : Arr Z h a (newA k ty N) ty) (q : ¬ N < 0) : Ia Z h a ty N (fun _ => defaultValue ty) :=
  ⟨_, A, sz_new _ _ _, q, fun j h1 h2 => get_new (by have := inb_of (sz_new k ty N) ⟨h1, h2⟩; rw [sz_new] at this; exact this)⟩
theorem Kx.getF (K : Kx E y bytes ml rt l Z R n0 Q V) {i : Nat} {O n d : String} {v : Value} (hd : Dc bytes pc (.getfield i) 3 pc') (w : (Jvm.Cond.fieldLink y.cls i O n d).before a0 Z = true) (F : Fld Z h a O n d v) (k : Wk E h kc kn pc' ls (v :: st)) : Wk E h kc kn pc ls (.ref a :: st) := by
  obtain ⟨hd, rfl⟩ := hd
  refine K.move0 (fun p e s m args below meth c G T locs X eT N => ?_)
  obtain ⟨g1, g2, g3, g4, g5, hZ, hown, g8, g9⟩ := G
  have hn : n0 ≤ h.size := by rw [← eT]; exact Nat.le_trans g9 X.same.2.1
  obtain ⟨T', X', e', q'⟩ := RoadKit.getF X g1 hZ hown (host := "") (Or.inl w) Via.refl eT F (g := mkF m pc ls (.ref a :: st)) rfl rfl (hb g2 hd)
  exact ⟨T', _, _, _, _, _, _, X', e', (Nat.le_refl _), k, fun t q => q' t q⟩
theorem Kx.putF (K : Kx E y bytes ml rt l Z R n0 Q V) {i kk : Nat} {O n d C : String} {ty : FieldType} {v old : Value} (hd : Dc bytes pc (.putfield i) 3 pc') (w : (Jvm.Cond.fieldLink y.cls i O n d).before a0 Z = true) (F : Fld Z h a O n d old) (X0 : Exa Z h a C)
    (L : (Jvm.Cond.lays C O n d).before a0 Z = true ∨ ((Jvm.Cond.laysFinal C O n d).before a0 Z = true ∧ y.cls = O ∧ y.name = "<init>")) (wi : (Jvm.Cond.instantiable C kk).before a0 Z = true) (ht : parseFieldDescriptor d = some ty) (hna : narrow ty v = v) (hf : fits ty v = true) (ge : n0 ≤ a)
    (k : ∀ h', Wr h h' a (RoadKit.slotOf Z O n d) v → Wk E h' kc kn pc' ls st) (hF : ∀ vm l l', V vm l → V vm l' := by exact fun _ _ _ u => u) : Wk E h kc kn pc ls (v :: .ref a :: st) := by
  obtain ⟨hd, rfl⟩ := hd
  refine K.move hF (fun p e s m args below meth c G T locs X eT N => ?_)
  obtain ⟨g1, g2, g3, g4, g5, hZ, hown, g8, g9⟩ := G
  have hn : n0 ≤ h.size := by rw [← eT]; exact Nat.le_trans g9 X.same.2.1
  obtain ⟨T', h', X', e', W, q'⟩ := RoadKit.putF X g1 hZ hown (host := "") (Or.inl w) Via.refl eT F X0 (L.imp id fun u => ⟨u.1, u.2.1, g8.trans u.2.2⟩) wi ht hna hf (g := mkF m pc ls (v :: .ref a :: st)) rfl rfl (hb g2 hd)
  exact ⟨T', _, _, _, _, _, _, _, X', e', (Fr.snoc X' N ge), (Nat.le_of_eq W.size.symm), k h' W, fun t q => q' t q⟩
theorem Kx.newO (K : Kx E y bytes ml rt l Z R n0 Q V) {i sz : Nat} {C : String} (kc' kn' : Nat) (hd : Dc bytes pc (.new i) 3 pc') (w : (Jvm.Cond.classLink y.cls i C).before a0 Z = true) (wi : (Jvm.Cond.instantiable C sz).before a0 Z = true) (wz : (Jvm.Cond.initialized C).before a0 Z = true)
    (hk : kc + 1 = kc') (hk2 : kn + sz = kn') (hc : kc' ≤ R.cells) (hl : kn' ≤ R.slots)
    (k : ∀ h' a, a = h.size → n0 ≤ a → Ext h h' → Exa Z h' a C → (∀ {O nm d : String} {ty : FieldType}, Laid Z a0 C O nm d → parseFieldDescriptor d = some ty → Fld Z h' a O nm d (defaultValue ty)) → Wk E h' kc' kn' pc' ls (.ref a :: st)) : Wk E h kc kn pc ls st := by
  obtain ⟨hd, rfl⟩ := hd
  refine K.move0 (fun p e s m args below meth c G T locs X eT N => ?_)
  obtain ⟨g1, g2, g3, g4, g5, hZ, hown, g8, g9⟩ := G
  have hn : n0 ≤ h.size := by rw [← eT]; exact Nat.le_trans g9 X.same.2.1
  subst hk hk2
  obtain ⟨T', h', X', e', E', A', D', -, q'⟩ := RoadKit.newO X g1 hZ hown w wi wz eT (g := mkF m pc ls st) rfl (hb g2 hd) hc hl
  exact ⟨T', _, _, _, _, _, _, X', e', E'.1, k h' h.size rfl hn E' A' D', fun t q => q' t q⟩
theorem Kx.newP (K : Kx E y bytes ml rt l Z R n0 Q V) {aty : ArrayType} {N : Int32} {ty : FieldType} {dv : Value} (cap kc' kn' : Nat) (hd : Dc bytes pc (.newarray aty) 2 pc') (w : (Jvm.Cond.arrayClass ty).before a0 Z = true) (hty : newarray.typeOf aty = ty) (hdv : defaultValue ty = dv) (hN : ¬ N < 0) (hcap : N.toNatClampNeg ≤ cap) (h8 : cap * 8 ≤ 536870912)
    (hk : kc + 1 = kc') (hk2 : kn + cap = kn') (hc : kc' ≤ R.cells) (hl : kn' ≤ R.slots)
    (k : ∀ h' a, a = h.size → n0 ≤ a → Ext h h' → Ia Z h' a ty N (fun _ => dv) → Wk E h' kc' kn' pc' ls (.ref a :: st)) : Wk E h kc kn pc ls (.int N :: st) := by
  obtain ⟨hd, rfl⟩ := hd
  refine K.move0 (fun p e s m args below meth c G T locs X eT N' => ?_)
  obtain ⟨g1, g2, g3, g4, g5, hZ, hown, g8, g9⟩ := G
  have hn : n0 ≤ h.size := by rw [← eT]; exact Nat.le_trans g9 X.same.2.1
  subst hk hk2 hty hdv
  obtain ⟨T', h', cA, X', e', E', A', q'⟩ := RoadKit.newP X g1 hZ w eT (g := mkF m pc ls (.int N :: st)) rfl (hb g2 hd) rfl hN hcap h8 hc hl
  exact ⟨T', _, _, _, _, _, _, X', e', E'.1, k h' h.size rfl hn E' (Ia.new A' hN), fun t q => q' t q⟩
theorem Kx.newR (K : Kx E y bytes ml rt l Z R n0 Q V) {i : Nat} {N : Int32} {C : String} (cap kc' kn' : Nat) (hd : Dc bytes pc (.anewarray i) 3 pc') (w1 : (Jvm.Cond.classLink y.cls i C).before a0 Z = true) (w2 : (Jvm.Cond.arrayOver (.object C)).before a0 Z = true) (hN : ¬ N < 0) (hcap : N.toNatClampNeg ≤ cap) (h8 : cap * 8 ≤ 536870912)
    (hk : kc + 1 = kc') (hk2 : kn + cap = kn') (hc : kc' ≤ R.cells) (hl : kn' ≤ R.slots)
    (k : ∀ h' a, a = h.size → n0 ≤ a → Ext h h' → Ia Z h' a (.object C) N (fun _ => .null) → Wk E h' kc' kn' pc' ls (.ref a :: st)) : Wk E h kc kn pc ls (.int N :: st) := by
  obtain ⟨hd, rfl⟩ := hd
  refine K.move0 (fun p e s m args below meth c G T locs X eT N' => ?_)
  obtain ⟨g1, g2, g3, g4, g5, hZ, hown, g8, g9⟩ := G
  have hn : n0 ≤ h.size := by rw [← eT]; exact Nat.le_trans g9 X.same.2.1
  subst hk hk2
  obtain ⟨T', h', cA, X', e', E', A', O', q'⟩ := RoadKit.newR X g1 hZ hown w1 w2 eT (g := mkF m pc ls (.int N :: st)) rfl (hb g2 hd) rfl hN hcap h8 hc hl
  exact ⟨T', _, _, _, _, _, _, X', e', E'.1, k h' h.size rfl hn E' (Ia.new A' hN), fun t q => q' t q⟩
theorem Kx.newRA (K : Kx E y bytes ml rt l Z R n0 Q V) {i : Nat} {N : Int32} {C : String} {ty : FieldType} (cap kc' kn' : Nat) (hd : Dc bytes pc (.anewarray i) 3 pc') (hC : (FieldType.array ty).toString = C) (w1 : (Jvm.Cond.classLink y.cls i C).before a0 Z = true) (w2 : (Jvm.Cond.arrayOver (.array ty)).before a0 Z = true) (hN : ¬ N < 0) (hcap : N.toNatClampNeg ≤ cap) (h8 : cap * 8 ≤ 536870912)
    (hk : kc + 1 = kc') (hk2 : kn + cap = kn') (hc : kc' ≤ R.cells) (hl : kn' ≤ R.slots)
    (k : ∀ h' a, a = h.size → n0 ≤ a → Ext h h' → Ia Z h' a (.array ty) N (fun _ => .null) → Wk E h' kc' kn' pc' ls (.ref a :: st)) : Wk E h kc kn pc ls (.int N :: st) := by
  obtain ⟨hd, rfl⟩ := hd
  refine K.move0 (fun p e s m args below meth c G T locs X eT N' => ?_)
  obtain ⟨g1, g2, g3, g4, g5, hZ, hown, g8, g9⟩ := G
  have hn : n0 ≤ h.size := by rw [← eT]; exact Nat.le_trans g9 X.same.2.1
  subst hk hk2
  obtain ⟨T', h', cA, X', e', E', A', -, O', q'⟩ := RoadKit.newRA X g1 hZ hown hC w1 w2 eT (g := mkF m pc ls (.int N :: st)) rfl (hb g2 hd) rfl hN hcap h8 hc hl rfl
  exact ⟨T', _, _, _, _, _, _, X', e', E'.1, k h' h.size rfl hn E' (Ia.new A' hN), fun t q => q' t q⟩
theorem Kx.arraylength (K : Kx E y bytes ml rt l Z R n0 Q V) {ty : FieldType} {N : Int32} {f : Int32 → Value} (hd : Dc bytes pc .arraylength 1 pc') (A : Ia Z h a ty N f) (k : Wk E h kc kn pc' ls (.int N :: st)) : Wk E h kc kn pc ls (.ref a :: st) := by
  obtain ⟨hd, rfl⟩ := hd
  obtain ⟨cl, A, S, M, G⟩ := A
  refine K.lift (fun p e s m args below meth c F T locs X eT t q => ?_) k
  exact X.arraylength F.1 (by rw [eT]; exact A.1) (State.isArrayOf_alike F.2.2.2.2.2.1.alike A.2.1) (g := mkF m pc ls (.ref a :: st)) rfl rfl (hb F.2.1 hd) t (by rw [len_of S M]; exact q)
theorem Kx.iaload (K : Kx E y bytes ml rt l Z R n0 Q V) {N j : Int32} {f : Int32 → Value} {v : Value} (hd : Dc bytes pc .iaload 1 pc') (A : Ia Z h a .int N f) (h1 : ¬ j < 0) (h2 : j < N) (hv : f j = v) (k : Wk E h kc kn pc' ls (v :: st)) : Wk E h kc kn pc ls (.int j :: .ref a :: st) := by
  obtain ⟨hd, rfl⟩ := hd
  obtain ⟨cl, A, S, M, G⟩ := A
  refine K.lift (fun p e s m args below meth c F T locs X eT t q => ?_) k
  exact X.iaload F.1 (by rw [eT]; exact A.1) (State.isArrayOf_alike F.2.2.2.2.2.1.alike A.2.1) A.2.2 (inb_of S ⟨h1, h2⟩) (hv ▸ G j h1 h2) (g := mkF m pc ls (.int j :: .ref a :: st)) rfl rfl (hb F.2.1 hd) t q
theorem Kx.baload (K : Kx E y bytes ml rt l Z R n0 Q V) {N j : Int32} {f : Int32 → Value} {v : Value} (hd : Dc bytes pc .baload 1 pc') (A : Ia Z h a .byte N f) (h1 : ¬ j < 0) (h2 : j < N) (hv : f j = v) (k : Wk E h kc kn pc' ls (v :: st)) : Wk E h kc kn pc ls (.int j :: .ref a :: st) := by
  obtain ⟨hd, rfl⟩ := hd
  obtain ⟨cl, A, S, M, G⟩ := A
  refine K.lift (fun p e s m args below meth c F T locs X eT t q => ?_) k
  exact X.baloadBytes F.1 (by rw [eT]; exact A.1) (State.isArrayOf_alike F.2.2.2.2.2.1.alike A.2.1) A.2.2 (inb_of S ⟨h1, h2⟩) (hv ▸ G j h1 h2) (g := mkF m pc ls (.int j :: .ref a :: st)) rfl rfl (hb F.2.1 hd) t q
theorem Kx.caload (K : Kx E y bytes ml rt l Z R n0 Q V) {N j : Int32} {f : Int32 → Value} {v : Value} (hd : Dc bytes pc .caload 1 pc') (A : Ia Z h a .char N f) (h1 : ¬ j < 0) (h2 : j < N) (hv : f j = v) (k : Wk E h kc kn pc' ls (v :: st)) : Wk E h kc kn pc ls (.int j :: .ref a :: st) := by
  obtain ⟨hd, rfl⟩ := hd
  obtain ⟨cl, A, S, M, G⟩ := A
  refine K.lift (fun p e s m args below meth c F T locs X eT t q => ?_) k
  exact X.caload F.1 (by rw [eT]; exact A.1) (State.isArrayOf_alike F.2.2.2.2.2.1.alike A.2.1) A.2.2 (inb_of S ⟨h1, h2⟩) (hv ▸ G j h1 h2) (g := mkF m pc ls (.int j :: .ref a :: st)) rfl rfl (hb F.2.1 hd) t q
theorem Kx.aaload (K : Kx E y bytes ml rt l Z R n0 Q V) {N j : Int32} {f : Int32 → Value} {ty : FieldType} {v : Value} (hd : Dc bytes pc .aaload 1 pc') (A : Ia Z h a ty N f) (hty : ty.isReference = true) (h1 : ¬ j < 0) (h2 : j < N) (hv : f j = v) (k : Wk E h kc kn pc' ls (v :: st)) : Wk E h kc kn pc ls (.int j :: .ref a :: st) := by
  obtain ⟨hd, rfl⟩ := hd
  obtain ⟨cl, A, S, M, G⟩ := A
  refine K.lift (fun p e s m args below meth c F T locs X eT t q => ?_) k
  exact X.aaload F.1 (by rw [eT]; exact A.1) (State.isArrayOf_alike F.2.2.2.2.2.1.alike A.2.1) hty A.2.2 (inb_of S ⟨h1, h2⟩) (hv ▸ G j h1 h2) (g := mkF m pc ls (.int j :: .ref a :: st)) rfl rfl (hb F.2.1 hd) t q
theorem Kx.iastore (K : Kx E y bytes ml rt l Z R n0 Q V) {N j x : Int32} {f : Int32 → Value} (hd : Dc bytes pc .iastore 1 pc') (A : Ia Z h a .int N f) (h1 : ¬ j < 0) (h2 : j < N) (ge : n0 ≤ a)
    (k : ∀ h', Wr h h' a j.toNatClampNeg (.int x) → Ia Z h' a .int N (fun k => if k = j then .int x else f k) → Wk E h' kc kn pc' ls st) (hF : ∀ vm l l', V vm l → V vm l' := by exact fun _ _ _ u => u) : Wk E h kc kn pc ls (.int x :: .int j :: .ref a :: st) := by
  obtain ⟨hd, rfl⟩ := hd
  refine K.move hF (fun p e s m args below meth c G T locs X eT N' => ?_)
  obtain ⟨g1, g2, g3, g4, g5, hZ, hown, g8, g9⟩ := G
  have hn : n0 ≤ h.size := by rw [← eT]; exact Nat.le_trans g9 X.same.2.1
  obtain ⟨cl, Ar, S, M, G⟩ := id A
  obtain ⟨T', h', X', e', W, q'⟩ := RoadKit.stI X g1 hZ eT Ar (inb_of S ⟨h1, h2⟩) (g := mkF m pc ls (.int x :: .int j :: .ref a :: st)) rfl rfl (hb g2 hd)
  exact ⟨T', _, _, _, _, _, _, _, X', e', (Fr.snoc X' N' ge), (Nat.le_of_eq W.size.symm), k h' W (A.set W h1), fun t q => q' t q⟩
theorem Kx.bastore (K : Kx E y bytes ml rt l Z R n0 Q V) {N j x : Int32} {f : Int32 → Value} (hd : Dc bytes pc .bastore 1 pc') (A : Ia Z h a .byte N f) (h1 : ¬ j < 0) (h2 : j < N) (ge : n0 ≤ a)
    (k : ∀ h', Wr h h' a j.toNatClampNeg (.int x.toInt8.toInt32) → Ia Z h' a .byte N (fun k => if k = j then .int x.toInt8.toInt32 else f k) → Wk E h' kc kn pc' ls st) (hF : ∀ vm l l', V vm l → V vm l' := by exact fun _ _ _ u => u) : Wk E h kc kn pc ls (.int x :: .int j :: .ref a :: st) := by
  obtain ⟨hd, rfl⟩ := hd
  refine K.move hF (fun p e s m args below meth c G T locs X eT N' => ?_)
  obtain ⟨g1, g2, g3, g4, g5, hZ, hown, g8, g9⟩ := G
  have hn : n0 ≤ h.size := by rw [← eT]; exact Nat.le_trans g9 X.same.2.1
  obtain ⟨cl, Ar, S, M, G⟩ := id A
  obtain ⟨T', h', X', e', W, q'⟩ := RoadKit.stB X g1 hZ eT Ar (inb_of S ⟨h1, h2⟩) (g := mkF m pc ls (.int x :: .int j :: .ref a :: st)) rfl rfl (hb g2 hd)
  exact ⟨T', _, _, _, _, _, _, _, X', e', (Fr.snoc X' N' ge), (Nat.le_of_eq W.size.symm), k h' W (A.set W h1), fun t q => q' t q⟩
theorem Kx.castore (K : Kx E y bytes ml rt l Z R n0 Q V) {N j x : Int32} {f : Int32 → Value} (hd : Dc bytes pc .castore 1 pc') (A : Ia Z h a .char N f) (h1 : ¬ j < 0) (h2 : j < N) (ge : n0 ≤ a)
    (k : ∀ h', Wr h h' a j.toNatClampNeg (.int x.toUInt32.toUInt16.toUInt32.toInt32) → Ia Z h' a .char N (fun k => if k = j then .int x.toUInt32.toUInt16.toUInt32.toInt32 else f k) → Wk E h' kc kn pc' ls st) (hF : ∀ vm l l', V vm l → V vm l' := by exact fun _ _ _ u => u) : Wk E h kc kn pc ls (.int x :: .int j :: .ref a :: st) := by
  obtain ⟨hd, rfl⟩ := hd
  refine K.move hF (fun p e s m args below meth c G T locs X eT N' => ?_)
  obtain ⟨g1, g2, g3, g4, g5, hZ, hown, g8, g9⟩ := G
  have hn : n0 ≤ h.size := by rw [← eT]; exact Nat.le_trans g9 X.same.2.1
  obtain ⟨cl, Ar, S, M, G⟩ := id A
  obtain ⟨T', h', X', e', W, q'⟩ := RoadKit.stC X g1 hZ eT Ar (inb_of S ⟨h1, h2⟩) (g := mkF m pc ls (.int x :: .int j :: .ref a :: st)) rfl rfl (hb g2 hd)
  exact ⟨T', _, _, _, _, _, _, _, X', e', (Fr.snoc X' N' ge), (Nat.le_of_eq W.size.symm), k h' W (A.set W h1), fun t q => q' t q⟩
theorem Kx.getS (K : Kx E y bytes ml rt l Z R n0 Q V) {i : Nat} {O n d : String} {v : Value} (hd : Dc bytes pc (.getstatic i) 3 pc') (w : (Jvm.Cond.fieldLink y.cls i O n d).before a0 Z = true) (F : Sta Z h O n d v) (k : Wk E h kc kn pc' ls (v :: st)) : Wk E h kc kn pc ls st := by
  obtain ⟨hd, rfl⟩ := hd
  refine K.move0 (fun p e s m args below meth c G T locs X eT N => ?_)
  obtain ⟨g1, g2, g3, g4, g5, hZ, hown, g8, g9⟩ := G
  have hn : n0 ≤ h.size := by rw [← eT]; exact Nat.le_trans g9 X.same.2.1
  obtain ⟨T', X', e', q'⟩ := RoadKit.getS (host := "") X g1 hZ hown w Via.refl eT F (g := mkF m pc ls st) rfl (hb g2 hd)
  exact ⟨T', _, _, _, _, _, _, X', e', (Nat.le_refl _), k, fun t q => q' t q⟩
theorem Kx.castY (K : Kx E y bytes ml rt l Z R n0 Q V) {i : Nat} {C : String} (hd : Dc bytes pc (.checkcast i) 3 pc') (w : (Jvm.Cond.classLink y.cls i C).before a0 Z = true) (F : Ins Z h a C true) (k : Wk E h kc kn pc' ls (.ref a :: st)) : Wk E h kc kn pc ls (.ref a :: st) := by
  obtain ⟨hd, rfl⟩ := hd
  refine K.move0 (fun p e s m args below meth c G T locs X eT N => ?_)
  obtain ⟨g1, g2, g3, g4, g5, hZ, hown, g8, g9⟩ := G
  obtain ⟨T', X', e', q'⟩ := RoadKit.castY X g1 hZ hown w eT F (g := mkF m pc ls (.ref a :: st)) rfl rfl (hb g2 hd)
  exact ⟨T', _, _, _, _, _, _, X', e', (Nat.le_refl _), k, fun t q => q' t q⟩
theorem Kx.instY (K : Kx E y bytes ml rt l Z R n0 Q V) {i : Nat} {C : String} (hd : Dc bytes pc (.instanceof i) 3 pc') (w : (Jvm.Cond.classLink y.cls i C).before a0 Z = true) (F : Ins Z h a C true) (k : Wk E h kc kn pc' ls (.int 1 :: st)) : Wk E h kc kn pc ls (.ref a :: st) := by
  obtain ⟨hd, rfl⟩ := hd
  refine K.move0 (fun p e s m args below meth c G T locs X eT N => ?_)
  obtain ⟨g1, g2, g3, g4, g5, hZ, hown, g8, g9⟩ := G
  obtain ⟨T', X', e', q'⟩ := RoadKit.instY X g1 hZ hown w eT F (g := mkF m pc ls (.ref a :: st)) rfl rfl (hb g2 hd)
  exact ⟨T', _, _, _, _, _, _, X', e', (Nat.le_refl _), k, fun t q => q' t q⟩
theorem Kx.instNo (K : Kx E y bytes ml rt l Z R n0 Q V) {i : Nat} {C D : String} (hd : Dc bytes pc (.instanceof i) 3 pc') (w : (Jvm.Cond.classLink y.cls i C).before a0 Z = true) (X0 : Exa Z h a D) (F : ∃ c t, Z.vm.findClass D = some c ∧ Z.vm.findClass C = some t ∧ Z.vm.assignable c t = false) (k : Wk E h kc kn pc' ls (.int 0 :: st)) : Wk E h kc kn pc ls (.ref a :: st) := by
  obtain ⟨hd, rfl⟩ := hd
  refine K.move0 (fun p e s m args below meth c G T locs X eT N => ?_)
  obtain ⟨g1, g2, g3, g4, g5, hZ, hown, g8, g9⟩ := G
  obtain ⟨T', X', e', q'⟩ := RoadKit.instNo X g1 hZ hown w eT X0 F (g := mkF m pc ls (.ref a :: st)) rfl rfl (hb g2 hd)
  exact ⟨T', _, _, _, _, _, _, X', e', (Nat.le_refl _), k, fun t q => q' t q⟩
theorem Kx.instNull (K : Kx E y bytes ml rt l Z R n0 Q V) {i : Nat} (hd : Dc bytes pc (.instanceof i) 3 pc') (k : Wk E h kc kn pc' ls (.int 0 :: st)) : Wk E h kc kn pc ls (.null :: st) := by
  obtain ⟨hd, rfl⟩ := hd
  exact K.lift (fun p e s m args below meth c F T locs X eT t q => X.instanceofNull F.1 (g := mkF m pc ls (.null :: st)) rfl rfl (hb F.2.1 hd) t q) k
def Pl (h : Heap) (x : Addr) : Prop := ∃ c : Cell, h[x]? = some c ∧ c.vm.isStatics = false
theorem plE {C : String} (F : Exa Z h a C) : Pl h a := by obtain ⟨c, _, h1, -, -, h4, -⟩ := F; exact ⟨c, h1, h4⟩
theorem plA {ty : FieldType} {N : Int32} {f : Int32 → Value} (F : Ia Z h a ty N f) : Pl h a := by obtain ⟨c, A, -⟩ := F; exact ⟨c, A.1, A.plain⟩
theorem staK {C n d : String} {v : Value} {ws : List Addr} (F : Sta Z h C n d v) (K : Keep h h' ws) (q : ∀ x ∈ ws, Pl h x) : Sta Z h' C n d v := by
  obtain ⟨cf, i, k, f, sa, cell, h1, h2, h3, h4, h5, h6, h7⟩ := F
  refine ⟨cf, i, k, f, sa, cell, h1, h2, h3, h4, K.2.1 sa cell h5 (fun u => ?_), h6, h7⟩
  obtain ⟨c, e1, e2⟩ := q sa u
  cases h5.symm.trans e1
  rw [e2] at h6; cases h6
theorem Kx.ac_eq (K : Kx E y bytes ml rt l Z R n0 Q V) {o : Int} (hd : Db bytes pc (.if_acmp .eq o) o pc1 pc2) (k1 : a = b → Wk E h kc kn pc2 ls st) (k2 : ¬ a = b → Wk E h kc kn pc1 ls st) : Wk E h kc kn pc ls (.ref b :: .ref a :: st) := by
  obtain ⟨hd, rfl, h0, h1⟩ := hd
  by_cases u : a = b
  · exact K.lift (fun p e s m args below meth c F T locs X eT t q => RoadKit.acmp (g := mkF m pc ls (.ref b :: .ref a :: st)) X F.1 rfl (x := .ref a) (y := .ref b) rfl rfl (same := true) rfl (hb F.2.1 hd) rfl (by simp [u]) h0 (by simp [acV, h1]) q) (k1 u)
  · exact K.lift (fun p e s m args below meth c F T locs X eT t q => RoadKit.acmp (g := mkF m pc ls (.ref b :: .ref a :: st)) X F.1 rfl (x := .ref a) (y := .ref b) rfl rfl (same := false) rfl (hb F.2.1 hd) rfl (by simp [u]) h0 (by simp [acV]) q) (k2 u)
theorem Kx.ac_ne (K : Kx E y bytes ml rt l Z R n0 Q V) {o : Int} (hd : Db bytes pc (.if_acmp .ne o) o pc1 pc2) (k1 : a = b → Wk E h kc kn pc1 ls st) (k2 : ¬ a = b → Wk E h kc kn pc2 ls st) : Wk E h kc kn pc ls (.ref b :: .ref a :: st) := by
  obtain ⟨hd, rfl, h0, h1⟩ := hd
  by_cases u : a = b
  · exact K.lift (fun p e s m args below meth c F T locs X eT t q => RoadKit.acmp (g := mkF m pc ls (.ref b :: .ref a :: st)) X F.1 rfl (x := .ref a) (y := .ref b) rfl rfl (same := true) rfl (hb F.2.1 hd) rfl (by simp [u]) h0 (by simp [acV]) q) (k1 u)
  · exact K.lift (fun p e s m args below meth c F T locs X eT t q => RoadKit.acmp (g := mkF m pc ls (.ref b :: .ref a :: st)) X F.1 rfl (x := .ref a) (y := .ref b) rfl rfl (same := false) rfl (hb F.2.1 hd) rfl (by simp [u]) h0 (by simp [acV, h1]) q) (k2 u)
theorem Kx.initO (K : Kx E y bytes ml rt l Z R n0 Q V) {i : Nat} (W : Nat) (hd : Dc bytes pc (.invokespecial i) 3 pc') (w1 : (Jvm.Cond.methodLink y.cls i Lib.objectInit).before a0 Z = true) (w2 : (Jvm.Cond.instanceMethod Lib.objectInit).before a0 Z = true) (w3 : (Jvm.Cond.code Lib.objectInit ⟨#[0xb1]⟩ 1 none).before a0 Z = true)
    (hsz : ls.size = ml) (hf : 1 ≤ R.frames) (hW : (st.map fun v => v.category).sum ≤ W) (hlo : W + 12 ≤ R.locals) (k : Wk E h kc kn pc' ls st) : Wk E h kc kn pc ls (.ref a :: st) := by
  obtain ⟨hd, rfl⟩ := hd
  refine K.move0 (fun p e s m args below meth c G T locs X eT N => ?_)
  obtain ⟨g1, g2, g3, g4, g5, hZ, hown, g8, g9⟩ := G
  have hn : n0 ≤ h.size := by rw [← eT]; exact Nat.le_trans g9 X.same.2.1
  obtain ⟨T', X', e', q'⟩ := RoadKit.initO X g1 hZ hown w1 w2 w3 eT (g := mkF m pc ls (.ref a :: st)) rfl (by rw [g3]; exact hsz) rfl (hb g2 hd) hf (W := W) (by show 2 * 0 + _ ≤ _; omega) hlo
  exact ⟨T', _, _, _, _, _, _, X', e', (Nat.le_refl _), k, fun t q => q' t q⟩
theorem backOfV {p : Program} {l : Launch} {e : Env} {R : Room} {s : State} {args : Array Value} {below : List Frame} {Z : State} {a0 : Array Value} {h : Heap} {y : MethodName} {bytes : ByteArray} {maxL : Nat} {ret : Option FieldType} {rm : Room} {len W : Nat} {as' : Array Value} {Q : Option Value → Heap → List Loc → Prop} {Vv : Vm → Prop}
    (hM : MetFree l y (head1 [Jvm.Cond.code y bytes maxL ret] rm) (fun a U => a = as' ∧ Z.Warmed39 U.vm ∧ U.heap = h ∧ Vv U.vm) (fun _ _ _ _ _ => True) (fun _ U o U' => ∃ v L, o = .returned v ∧ Q v U'.heap L ∧ ReturnedEndW U o U' L rm.cells rm.slots))
    (hZ : Z.Warmed39 s.vm) (hVv : ∀ vm₁, s.WarmedH vm₁ → Vv vm₁) (wc : (Jvm.Cond.code y bytes maxL ret).before a0 Z = true) (wz : (Jvm.Cond.initialized y.cls).before a0 Z = true) (hf : rm.frames + 1 ≤ R.frames) (hl : W + (maxL + 11) + rm.locals ≤ R.locals) :
    BackS l R p e below s args y len W (fun A a => a = as' ∧ A.U.heap = h ∧ A.cells + rm.cells ≤ R.cells ∧ A.slots + rm.slots ≤ R.slots)
      (fun A _ v B => ∃ L, Q v B.U.heap L ∧ B.locs = A.locs ++ L ∧ B.cells = A.cells + rm.cells ∧ B.slots = A.slots + rm.slots) :=
  BackS.of_freeW (bytes := bytes) (maxL := maxL) (ret := ret) (E := fun _ _ o t L k n => k = rm.cells ∧ n = rm.slots ∧ ∃ v, o = .returned v ∧ Q v t.heap L) hM hf hl
    (fun m meth c A a Y hp => have hU : Z.Warmed39 A.U.vm := wtrans hZ Y.warmed
      ⟨by show (Jvm.Cond.and _ .tt).before a A.U = true; rw [Cond.before_and, mv hU wc]; rfl, mv hU wc, mv hU wz, hp.2.2.1, hp.2.2.2⟩)
    (fun m meth c A a g mk Y hp => ⟨hp.1, wtrans hZ Y.warmed, hp.2.1, hVv _ Y.warmed⟩) (fun _ _ _ _ _ _ _ _ _ => trivial)
    (fun _ _ _ _ ⟨v, L, h1, h2, h3⟩ => ⟨L, _, _, h3, rfl, rfl, v, h1, h2⟩)
    (fun m meth c A a g mk v t L k n Y hp _ _ ⟨e1, e2, v', e3, e4⟩ => by cases e3; subst e1 e2; exact ⟨L, e4, rfl, rfl, rfl⟩)
abbrev V1 (own : String) (i : Nat) (a : Addr) : Vm → List Loc → Prop := fun vm _ => ∀ s0 : State, Lit (s0.setVm vm) own i a
theorem Kx.ldcSV (K : Kx E y bytes ml rt l Z R n0 Q (V0 Z)) {i : Nat} (kc' kn' : Nat) (hd : Dc bytes pc (.ldc i) 2 pc') (w : (Jvm.Cond.stringLink y.cls i "").before a0 Z = true) (wS : ∀ a ∈ Bundle.stringAtoms, a.before a0 Z = true) (hkeep : Ext Z.heap h) (hh : Jvm.Lit.constHeld Z y.cls i) (hcw : Jvm.Lit.compactW.before a0 Z = true)
    (hk : 2 = kc') (hk2 : kn + 4 = kn') (hc : kc' ≤ R.cells) (hl : kn' ≤ R.slots)
    (k : ∀ a E', Kx E' y bytes ml rt l Z R n0 Q (V1 y.cls i a) → ∀ b h', Ext h h' → Exa Z h' a "java/lang/String" → Fld Z h' a "java/lang/String" "coder" "B" (.int 0) → Fld Z h' a "java/lang/String" "value" "[B" (.ref b) → Ia Z h' b .byte 0 (fun _ => .int 0) → Wk E' h' kc' kn' pc' ls (.ref a :: st)) : Wk E h 0 kn pc ls st := by
  obtain ⟨hd, rfl⟩ := hd
  obtain ⟨p, e, s, m, args, below, meth, c, rfl, G⟩ := K
  intro T locs vm0 k0 X hS hk0 eT N hV
  obtain ⟨g1, g2, g3, g4, g5, hZ, hown, g8, g9⟩ := G.at hS
  obtain ⟨hV1, rfl⟩ := hV
  subst hk hk2
  have hold : ∀ (b : Addr) (cl : Cell), Z.heap[b]? = some cl → s.heap[b]? = some cl := fun b cl q => by
    have q1 := hkeep.2 b cl q
    have q2 : b < s.heap.size := by
      have := (Array.getElem?_eq_some_iff.mp q).1
      exact Nat.lt_of_lt_of_le this (Nat.le_trans hkeep.1 (by rw [← eT]; have := X.heapSize; exact this))
    obtain ⟨cl', hcl'⟩ : ∃ cl', s.heap[b]? = some cl' := ⟨_, Array.getElem?_eq_getElem q2⟩
    have q3 := oldF X (Fr.nil _) b cl' hcl'
    rw [eT] at q3
    cases q1.symm.trans q3
    exact hcl'
  obtain ⟨a, T', h', k1, b, kk, X', e', E', hS', hk', -, -, A', F1, F2, V', -, -, -, L', q'⟩ := RoadKit.ldcSVL (Ts := []) (vs := []) (z := 0) X g1 hZ hown w wS eT hS hk0 (Fr.nil _) hold ⟨#[], by simp [show vm0.interned = Z.vm.interned from hV1], fun q hq => by simp at hq⟩ (by simp) hh hcw ⟨by simp, rfl⟩ (by decide) rfl (g := mkF m pc ls st) rfl (hb g2 hd) (n := 0) (by decide) (by decide) hc hl
  obtain ⟨cl, Ar, -, Sz, Mz, Hz, -⟩ := V'
  obtain ⟨s₂, o, q, r⟩ := k a (p, l, e, R, s, m, args, below, meth, c, n0, Q, V1 y.cls i a) ⟨p, e, s, m, args, below, meth, c, rfl, G⟩ b h' E' A' F1 F2 ⟨cl, Ar, Sz, Mz, fun j h1 h2 => absurd h2 (by exact h1)⟩ T' _ T'.vm k1 X' hS' hk' e' N (fun s0 => L')
  exact ⟨s₂, o, q' _ q, r⟩
theorem Kx.ldcA {i : Nat} (K : Kx E y bytes ml rt l Z R n0 Q (V1 y.cls i a)) {text : String} (hd : Dc bytes pc (.ldc i) 2 pc') (w : (Jvm.Cond.stringLink y.cls i text).before a0 Z = true) (k : Wk E h kc kn pc' ls (.ref a :: st)) : Wk E h kc kn pc ls st := by
  obtain ⟨hd, rfl⟩ := hd
  obtain ⟨p, e, s, m, args, below, meth, c, rfl, G⟩ := K
  intro T locs vm0 k0 X hS hk0 eT N hV
  obtain ⟨g1, g2, g3, g4, g5, hZ, hown, g8, g9⟩ := G.at hS
  obtain ⟨s₂, o, q, r⟩ := k T locs vm0 k0 X hS hk0 eT N hV
  exact ⟨s₂, o, RoadKit.ldcAgain X g1 hZ hown w (hV s) (g := mkF m pc ls st) rfl (hb g2 hd) _ q, r⟩
theorem Kx.callS_pl (K : Kx E y bytes ml rt l Z R n0 Q V) {i : Nat} {y' : MethodName} {bytes' : ByteArray} {ml' : Nat} {rt' : Option FieldType} {rm : Room} {val : Value} (as rest : List Value) (W kc' kn' : Nat) (hd : Dc bytes pc (.invokestatic i) 3 pc')
    (wl : (Jvm.Cond.methodLink y.cls i y').before a0 Z = true) (ws : (Jvm.Cond.static y').before a0 Z = true) (wz : (Jvm.Cond.initialized y'.cls).before a0 Z = true) (wc : (Jvm.Cond.code y' bytes' ml' rt').before a0 Z = true) (hy : y'.cls ≠ "java/lang/invoke/MethodHandle" ∧ y'.cls ≠ "java/lang/invoke/VarHandle")
    (con : Pl.Con l Z y' bytes' ml' rt' rm as.toArray h n0 (fun v h' => v = some val ∧ h' = h)) (hVl : ∀ vm l l', V vm l → V vm l') (hst : st = as.reverse ++ rest) (hlen : ∀ sig, parseMethodDescriptor y'.desc = some sig → as.length = sig.parameters.length) (hsz : ls.size = ml) (hW : (rest.map fun v => v.category).sum ≤ W)
    (hf : rm.frames + 1 ≤ R.frames) (hlo : W + (ml' + 11) + rm.locals ≤ R.locals) (hk : kc + rm.cells = kc') (hk2 : kn + rm.slots = kn') (hc : kc' ≤ R.cells) (hl : kn' ≤ R.slots) (k : Wk E h kc' kn' pc' ls (val :: rest)) : Wk E h kc kn pc ls st := by
  obtain ⟨hd, rfl⟩ := hd
  obtain ⟨p, e, s, m, args, below, meth, c, rfl, G⟩ := K
  intro T locs vm0 k0 X hS hk0 eT N hV
  obtain ⟨g1, g2, g3, g4, g5, hZ, hown, g8, g9⟩ := G.at hS
  have hn : n0 ≤ h.size := by rw [← eT]; exact Nat.le_trans g9 X.same.2.1
  subst hst hk hk2
  obtain ⟨v, vm₁, ⟨T', L', k', n'⟩, -, X', ⟨L, ⟨⟨hQ1, hQ2⟩, hFr⟩, e1, e2, e3⟩, q'⟩ := Jvm.LawKit.callS X g1 (y := y') hown (mvT hZ wl) (mvT hZ ws) (mvT hZ wz) (mvT hZ wc) hy (backOf (W := W) (Q := fun v h' L => (v = some val ∧ h' = h) ∧ Fr n0 L) (con hn []) hZ wc wz hf hlo) (g := mkF m pc ls (as.reverse ++ rest)) rfl (by rw [g3]; exact hsz) (argsL := as) (rest := rest) hlen rfl (by show 2 * 0 + _ ≤ _; omega) (hb g2 hd) (fun _ _ => ⟨rfl, eT, hc, hl⟩)
  dsimp only [Pt.U, Pt.locs, Pt.cells, Pt.slots] at X' e1 e2 e3 q' hQ1 hQ2
  subst e1 e2 e3 hQ1
  obtain ⟨s₂, o, q, r⟩ := k T' _ vm0 k0 X' hS hk0 hQ2 (Fr.app N hFr) (hVl _ _ _ hV)
  exact ⟨s₂, o, q' _ q, r⟩
theorem vv_t : ∀ (s : State) (vm0 : Vm) (locs : List Loc) (vm₁ : Vm), V vm0 locs → (s.setVm vm0).WarmedH vm₁ → Vx vm₁ := fun _ _ _ _ _ _ => trivial
theorem vv_c : ∀ (s : State) (vm0 : Vm) (locs : List Loc) (vm₁ : Vm), Vc Z vm0 locs → (s.setVm vm0).WarmedH vm₁ → Vi Z vm₁ := fun s vm0 locs vm₁ h u => by
  have := u.interned_eq
  exact this.trans h
theorem Kx.callS (K : Kx E y bytes ml rt l Z R n0 Q Vt) {i : Nat} {y' : MethodName} {bytes' : ByteArray} {ml' : Nat} {rt' : Option FieldType} {rm : Room} {Q' : Option Value → Heap → Prop} (as rest : List Value) (W kc' kn' : Nat) (hd : Dc bytes pc (.invokestatic i) 3 pc')
    (wl : (Jvm.Cond.methodLink y.cls i y').before a0 Z = true) (ws : (Jvm.Cond.static y').before a0 Z = true) (wz : (Jvm.Cond.initialized y'.cls).before a0 Z = true) (wc : (Jvm.Cond.code y' bytes' ml' rt').before a0 Z = true) (hy : y'.cls ≠ "java/lang/invoke/MethodHandle" ∧ y'.cls ≠ "java/lang/invoke/VarHandle")
    (con : Con l Z y' bytes' ml' rt' rm as.toArray h n0 Q' Vx) (hst : st = as.reverse ++ rest) (hlen : ∀ sig, parseMethodDescriptor y'.desc = some sig → as.length = sig.parameters.length) (hsz : ls.size = ml) (hW : (rest.map fun v => v.category).sum ≤ W)
    (hf : rm.frames + 1 ≤ R.frames) (hlo : W + (ml' + 11) + rm.locals ≤ R.locals) (hk : kc + rm.cells = kc') (hk2 : kn + rm.slots = kn') (hc : kc' ≤ R.cells) (hl : kn' ≤ R.slots)
    (k : ∀ v h', Q' v h' → Wk E h' kc' kn' pc' ls (v.toList ++ rest)) : Wk E h kc kn pc ls st := by
  obtain ⟨hd, rfl⟩ := hd
  obtain ⟨p, e, s, m, args, below, meth, c, rfl, G⟩ := K
  intro T locs vm0 k0 X hS hk0 eT N hV
  obtain ⟨g1, g2, g3, g4, g5, hZ, hown, g8, g9⟩ := G.at hS
  have hn : n0 ≤ h.size := by rw [← eT]; exact Nat.le_trans g9 X.same.2.1
  subst hst hk hk2
  obtain ⟨v, vm₁, ⟨T', L', k', n'⟩, -, X', hS', hgr, ⟨L, ⟨hQ, hFr⟩, e1, e2, e3⟩, q'⟩ := Jvm.RoadKit.callSS X g1 (y := y') hown (mvT hZ wl) (mvT hZ ws) (mvT hZ wz) (mvT hZ wc) hy (backOfV (W := W) (Q := fun v h L => Q' v h ∧ Fr n0 L) (con hn []) hZ (fun vm₁ u => trivial) wc wz hf hlo) (g := mkF m pc ls (as.reverse ++ rest)) rfl (by rw [g3]; exact hsz) (argsL := as) (rest := rest) hlen rfl (by show 2 * 0 + _ ≤ _; omega) (hb g2 hd) (fun _ _ => ⟨rfl, eT, hc, hl⟩)
  dsimp only [Pt.U, Pt.locs, Pt.cells, Pt.slots] at X' hS' hgr e1 e2 e3 q' hQ
  subst e1 e2 e3
  obtain ⟨s₂, o, q, r⟩ := k v T'.heap hQ T' _ T'.vm T'.heap.size X' (hS.trans hS' (Nat.le_trans hk0 (by rw [← eT]; exact hgr))) (Nat.le_refl _) rfl (Fr.app N hFr) trivial
  exact ⟨s₂, o, q'.trans q, r⟩
theorem Kx.callS_c (K : Kx E y bytes ml rt l Z R n0 Q V) {i : Nat} {y' : MethodName} {bytes' : ByteArray} {ml' : Nat} {rt' : Option FieldType} {rm : Room} {Q' : Option Value → Heap → Prop} (as rest : List Value) (W kc' kn' : Nat) (hd : Dc bytes pc (.invokestatic i) 3 pc')
    (wl : (Jvm.Cond.methodLink y.cls i y').before a0 Z = true) (ws : (Jvm.Cond.static y').before a0 Z = true) (wz : (Jvm.Cond.initialized y'.cls).before a0 Z = true) (wc : (Jvm.Cond.code y' bytes' ml' rt').before a0 Z = true) (hy : y'.cls ≠ "java/lang/invoke/MethodHandle" ∧ y'.cls ≠ "java/lang/invoke/VarHandle")
    (con : Con l Z y' bytes' ml' rt' rm as.toArray h n0 Q' Vv) (hVv : ∀ (s : State) (vm0 : Vm) (locs : List Loc) (vm₁ : Vm), V vm0 locs → (s.setVm vm0).WarmedH vm₁ → Vv vm₁) (hst : st = as.reverse ++ rest) (hlen : ∀ sig, parseMethodDescriptor y'.desc = some sig → as.length = sig.parameters.length) (hsz : ls.size = ml) (hW : (rest.map fun v => v.category).sum ≤ W)
    (hf : rm.frames + 1 ≤ R.frames) (hlo : W + (ml' + 11) + rm.locals ≤ R.locals) (hk : kc + rm.cells = kc') (hk2 : kn + rm.slots = kn') (hc : kc' ≤ R.cells) (hl : kn' ≤ R.slots)
    (k : ∀ E', Kx E' y bytes ml rt l Z R n0 Q Vt → ∀ v h', Q' v h' → Wk E' h' kc' kn' pc' ls (v.toList ++ rest)) : Wk E h kc kn pc ls st := by
  obtain ⟨hd, rfl⟩ := hd
  obtain ⟨p, e, s, m, args, below, meth, c, rfl, G⟩ := K
  intro T locs vm0 k0 X hS hk0 eT N hV
  obtain ⟨g1, g2, g3, g4, g5, hZ, hown, g8, g9⟩ := G.at hS
  have hn : n0 ≤ h.size := by rw [← eT]; exact Nat.le_trans g9 X.same.2.1
  subst hst hk hk2
  obtain ⟨v, vm₁, ⟨T', L', k', n'⟩, -, X', hS', hgr, ⟨L, ⟨hQ, hFr⟩, e1, e2, e3⟩, q'⟩ := Jvm.RoadKit.callSS X g1 (y := y') hown (mvT hZ wl) (mvT hZ ws) (mvT hZ wz) (mvT hZ wc) hy (backOfV (W := W) (Q := fun v h L => Q' v h ∧ Fr n0 L) (con hn []) hZ (fun vm₁ u => hVv s vm0 locs vm₁ hV u) wc wz hf hlo) (g := mkF m pc ls (as.reverse ++ rest)) rfl (by rw [g3]; exact hsz) (argsL := as) (rest := rest) hlen rfl (by show 2 * 0 + _ ≤ _; omega) (hb g2 hd) (fun _ _ => ⟨rfl, eT, hc, hl⟩)
  dsimp only [Pt.U, Pt.locs, Pt.cells, Pt.slots] at X' hS' hgr e1 e2 e3 q' hQ
  subst e1 e2 e3
  obtain ⟨s₂, o, q, r⟩ := k (p, l, e, R, s, m, args, below, meth, c, n0, Q, Vt) ⟨p, e, s, m, args, below, meth, c, rfl, G⟩ v T'.heap hQ T' _ T'.vm T'.heap.size X' (hS.trans hS' (Nat.le_trans hk0 (by rw [← eT]; exact hgr))) (Nat.le_refl _) rfl (Fr.app N hFr) trivial
  exact ⟨s₂, o, q'.trans q, r⟩
theorem Kx.callI (K : Kx E y bytes ml rt l Z R n0 Q Vt) {i : Nat} {y' : MethodName} {bytes' : ByteArray} {ml' : Nat} {rt' : Option FieldType} {rm : Room} {Q' : Option Value → Heap → Prop} (as rest : List Value) (W kc' kn' : Nat) (hd : Dc bytes pc (.invokespecial i) 3 pc') (hy1 : y'.name = "<init>") (hrt : rt' = none)
    (wl : (Jvm.Cond.methodLink y.cls i y').before a0 Z = true) (wn : (Jvm.Cond.instanceMethod y').before a0 Z = true) (wz : (Jvm.Cond.initialized y'.cls).before a0 Z = true) (wc : (Jvm.Cond.code y' bytes' ml' rt').before a0 Z = true) (hy : y'.cls ≠ "java/lang/invoke/MethodHandle" ∧ y'.cls ≠ "java/lang/invoke/VarHandle")
    (con : Con l Z y' bytes' ml' rt' rm (.ref a :: as).toArray h n0 Q' Vx) (hst : st = as.reverse ++ .ref a :: rest) (hlen : ∀ sig, parseMethodDescriptor y'.desc = some sig → as.length = sig.parameters.length) (hsz : ls.size = ml) (hW : (rest.map fun v => v.category).sum ≤ W)
    (hf : rm.frames + 1 ≤ R.frames) (hlo : W + (ml' + 11) + rm.locals ≤ R.locals) (hk : kc + rm.cells = kc') (hk2 : kn + rm.slots = kn') (hc : kc' ≤ R.cells) (hl : kn' ≤ R.slots)
    (k : ∀ v h', Q' v h' → Wk E h' kc' kn' pc' ls (v.toList ++ rest)) : Wk E h kc kn pc ls st := by
  obtain ⟨hd, rfl⟩ := hd
  obtain ⟨p, e, s, m, args, below, meth, c, rfl, G⟩ := K
  intro T locs vm0 k0 X hS hk0 eT N hV
  obtain ⟨g1, g2, g3, g4, g5, hZ, hown, g8, g9⟩ := G.at hS
  have hn : n0 ≤ h.size := by rw [← eT]; exact Nat.le_trans g9 X.same.2.1
  subst hst hk hk2
  subst hrt
  obtain ⟨v, vm₁, ⟨T', L', k', n'⟩, -, X', hS', hgr, ⟨L, ⟨hQ, hFr⟩, e1, e2, e3⟩, q'⟩ := X.specialBackS g1 (y := y') hy1 hown (mvT hZ wl) (mvT hZ wn) (mvT hZ wc) hy (backOfV (W := W) (Q := fun v h L => Q' v h ∧ Fr n0 L) (con hn []) hZ (fun vm₁ u => trivial) wc wz hf hlo) (g := mkF m pc ls (as.reverse ++ .ref a :: rest)) rfl (by rw [g3]; exact hsz) (Steps.refl _) (a := a) (argsL := as) (rest := rest) hlen rfl (by show 2 * 0 + _ ≤ _; omega) (hb g2 hd) (fun _ _ => ⟨rfl, eT, hc, hl⟩)
  dsimp only [Pt.U, Pt.locs, Pt.cells, Pt.slots] at X' hS' hgr e1 e2 e3 q' hQ
  subst e1 e2 e3
  obtain ⟨s₂, o, q, r⟩ := k v T'.heap hQ T' _ T'.vm T'.heap.size X' (hS.trans hS' (Nat.le_trans hk0 (by rw [← eT]; exact hgr))) (Nat.le_refl _) rfl (Fr.app N hFr) trivial
  exact ⟨s₂, o, q'.trans q, r⟩
theorem Kx.callI_c (K : Kx E y bytes ml rt l Z R n0 Q V) {i : Nat} {y' : MethodName} {bytes' : ByteArray} {ml' : Nat} {rt' : Option FieldType} {rm : Room} {Q' : Option Value → Heap → Prop} (as rest : List Value) (W kc' kn' : Nat) (hd : Dc bytes pc (.invokespecial i) 3 pc') (hy1 : y'.name = "<init>") (hrt : rt' = none)
    (wl : (Jvm.Cond.methodLink y.cls i y').before a0 Z = true) (wn : (Jvm.Cond.instanceMethod y').before a0 Z = true) (wz : (Jvm.Cond.initialized y'.cls).before a0 Z = true) (wc : (Jvm.Cond.code y' bytes' ml' rt').before a0 Z = true) (hy : y'.cls ≠ "java/lang/invoke/MethodHandle" ∧ y'.cls ≠ "java/lang/invoke/VarHandle")
    (con : Con l Z y' bytes' ml' rt' rm (.ref a :: as).toArray h n0 Q' Vv) (hVv : ∀ (s : State) (vm0 : Vm) (locs : List Loc) (vm₁ : Vm), V vm0 locs → (s.setVm vm0).WarmedH vm₁ → Vv vm₁) (hst : st = as.reverse ++ .ref a :: rest) (hlen : ∀ sig, parseMethodDescriptor y'.desc = some sig → as.length = sig.parameters.length) (hsz : ls.size = ml) (hW : (rest.map fun v => v.category).sum ≤ W)
    (hf : rm.frames + 1 ≤ R.frames) (hlo : W + (ml' + 11) + rm.locals ≤ R.locals) (hk : kc + rm.cells = kc') (hk2 : kn + rm.slots = kn') (hc : kc' ≤ R.cells) (hl : kn' ≤ R.slots)
    (k : ∀ E', Kx E' y bytes ml rt l Z R n0 Q Vt → ∀ v h', Q' v h' → Wk E' h' kc' kn' pc' ls (v.toList ++ rest)) : Wk E h kc kn pc ls st := by
  obtain ⟨hd, rfl⟩ := hd
  obtain ⟨p, e, s, m, args, below, meth, c, rfl, G⟩ := K
  intro T locs vm0 k0 X hS hk0 eT N hV
  obtain ⟨g1, g2, g3, g4, g5, hZ, hown, g8, g9⟩ := G.at hS
  have hn : n0 ≤ h.size := by rw [← eT]; exact Nat.le_trans g9 X.same.2.1
  subst hst hk hk2
  subst hrt
  obtain ⟨v, vm₁, ⟨T', L', k', n'⟩, -, X', hS', hgr, ⟨L, ⟨hQ, hFr⟩, e1, e2, e3⟩, q'⟩ := X.specialBackS g1 (y := y') hy1 hown (mvT hZ wl) (mvT hZ wn) (mvT hZ wc) hy (backOfV (W := W) (Q := fun v h L => Q' v h ∧ Fr n0 L) (con hn []) hZ (fun vm₁ u => hVv s vm0 locs vm₁ hV u) wc wz hf hlo) (g := mkF m pc ls (as.reverse ++ .ref a :: rest)) rfl (by rw [g3]; exact hsz) (Steps.refl _) (a := a) (argsL := as) (rest := rest) hlen rfl (by show 2 * 0 + _ ≤ _; omega) (hb g2 hd) (fun _ _ => ⟨rfl, eT, hc, hl⟩)
  dsimp only [Pt.U, Pt.locs, Pt.cells, Pt.slots] at X' hS' hgr e1 e2 e3 q' hQ
  subst e1 e2 e3
  obtain ⟨s₂, o, q, r⟩ := k (p, l, e, R, s, m, args, below, meth, c, n0, Q, Vt) ⟨p, e, s, m, args, below, meth, c, rfl, G⟩ v T'.heap hQ T' _ T'.vm T'.heap.size X' (hS.trans hS' (Nat.le_trans hk0 (by rw [← eT]; exact hgr))) (Nat.le_refl _) rfl (Fr.app N hFr) trivial
  exact ⟨s₂, o, q'.trans q, r⟩
theorem Kx.callV (K : Kx E y bytes ml rt l Z R n0 Q Vt) {i : Nat} {y' : MethodName} {bytes' : ByteArray} {ml' : Nat} {rt' : Option FieldType} {rm : Room} {Q' : Option Value → Heap → Prop} (as rest : List Value) (W kc' kn' : Nat) {C : String} (hd : Dc bytes pc (.invokevirtual i) 3 pc')
    (wl : (Jvm.Cond.methodLink y.cls i y').before a0 Z = true) (wd : (Jvm.Cond.declares y').before a0 Z = true) (wse : (Jvm.Cond.selects C y' y').before a0 Z = true) (wn : (Jvm.Cond.instanceMethod y').before a0 Z = true) (wz : (Jvm.Cond.initialized y'.cls).before a0 Z = true) (wc : (Jvm.Cond.code y' bytes' ml' rt').before a0 Z = true) (hy : y'.cls ≠ "java/lang/invoke/MethodHandle" ∧ y'.cls ≠ "java/lang/invoke/VarHandle")
    (con : Con l Z y' bytes' ml' rt' rm (.ref a :: as).toArray h n0 Q' Vx) (X0 : Exa Z h a C) (hst : st = as.reverse ++ .ref a :: rest) (hlen : ∀ sig, parseMethodDescriptor y'.desc = some sig → as.length = sig.parameters.length) (hsz : ls.size = ml) (hW : (rest.map fun v => v.category).sum ≤ W)
    (hf : rm.frames + 1 ≤ R.frames) (hlo : W + (ml' + 11) + rm.locals ≤ R.locals) (hk : kc + rm.cells = kc') (hk2 : kn + rm.slots = kn') (hc : kc' ≤ R.cells) (hl : kn' ≤ R.slots)
    (k : ∀ v h', Q' v h' → Wk E h' kc' kn' pc' ls (v.toList ++ rest)) : Wk E h kc kn pc ls st := by
  obtain ⟨hd, rfl⟩ := hd
  obtain ⟨p, e, s, m, args, below, meth, c, rfl, G⟩ := K
  intro T locs vm0 k0 X hS hk0 eT N hV
  obtain ⟨g1, g2, g3, g4, g5, hZ, hown, g8, g9⟩ := G.at hS
  have hn : n0 ≤ h.size := by rw [← eT]; exact Nat.le_trans g9 X.same.2.1
  subst hst hk hk2
  obtain ⟨cq, kq, qa, qb, qc⟩ := isOf hZ eT X0
  obtain ⟨v, vm₁, ⟨T', L', k', n'⟩, -, X', hS', hgr, ⟨L, ⟨hQ, hFr⟩, e1, e2, e3⟩, q'⟩ := X.virtualBackS g1 (y := y') (z := y') hown (mvT hZ wl) (mvT hZ wd) (notFace_of_selects (args := #[]) (mvT hZ wse)) (mvT hZ wse) (mvT hZ wn) hy (backOfV (W := W) (Q := fun v h L => Q' v h ∧ Fr n0 L) (con hn []) hZ (fun vm₁ u => trivial) wc wz hf hlo) qa qc (g := mkF m pc ls (as.reverse ++ .ref a :: rest)) rfl (by rw [g3]; exact hsz) (Steps.refl _) (argsL := as) (rest := rest) hlen rfl (by show 2 * 0 + _ ≤ _; omega) (hb g2 hd) (fun _ _ => ⟨rfl, eT, hc, hl⟩)
  dsimp only [Pt.U, Pt.locs, Pt.cells, Pt.slots] at X' hS' hgr e1 e2 e3 q' hQ
  subst e1 e2 e3
  obtain ⟨s₂, o, q, r⟩ := k v T'.heap hQ T' _ T'.vm T'.heap.size X' (hS.trans hS' (Nat.le_trans hk0 (by rw [← eT]; exact hgr))) (Nat.le_refl _) rfl (Fr.app N hFr) trivial
  exact ⟨s₂, o, q'.trans q, r⟩
theorem Kx.callV_c (K : Kx E y bytes ml rt l Z R n0 Q V) {i : Nat} {y' : MethodName} {bytes' : ByteArray} {ml' : Nat} {rt' : Option FieldType} {rm : Room} {Q' : Option Value → Heap → Prop} (as rest : List Value) (W kc' kn' : Nat) {C : String} (hd : Dc bytes pc (.invokevirtual i) 3 pc')
    (wl : (Jvm.Cond.methodLink y.cls i y').before a0 Z = true) (wd : (Jvm.Cond.declares y').before a0 Z = true) (wse : (Jvm.Cond.selects C y' y').before a0 Z = true) (wn : (Jvm.Cond.instanceMethod y').before a0 Z = true) (wz : (Jvm.Cond.initialized y'.cls).before a0 Z = true) (wc : (Jvm.Cond.code y' bytes' ml' rt').before a0 Z = true) (hy : y'.cls ≠ "java/lang/invoke/MethodHandle" ∧ y'.cls ≠ "java/lang/invoke/VarHandle")
    (con : Con l Z y' bytes' ml' rt' rm (.ref a :: as).toArray h n0 Q' Vv) (hVv : ∀ (s : State) (vm0 : Vm) (locs : List Loc) (vm₁ : Vm), V vm0 locs → (s.setVm vm0).WarmedH vm₁ → Vv vm₁) (X0 : Exa Z h a C) (hst : st = as.reverse ++ .ref a :: rest) (hlen : ∀ sig, parseMethodDescriptor y'.desc = some sig → as.length = sig.parameters.length) (hsz : ls.size = ml) (hW : (rest.map fun v => v.category).sum ≤ W)
    (hf : rm.frames + 1 ≤ R.frames) (hlo : W + (ml' + 11) + rm.locals ≤ R.locals) (hk : kc + rm.cells = kc') (hk2 : kn + rm.slots = kn') (hc : kc' ≤ R.cells) (hl : kn' ≤ R.slots)
    (k : ∀ E', Kx E' y bytes ml rt l Z R n0 Q Vt → ∀ v h', Q' v h' → Wk E' h' kc' kn' pc' ls (v.toList ++ rest)) : Wk E h kc kn pc ls st := by
  obtain ⟨hd, rfl⟩ := hd
  obtain ⟨p, e, s, m, args, below, meth, c, rfl, G⟩ := K
  intro T locs vm0 k0 X hS hk0 eT N hV
  obtain ⟨g1, g2, g3, g4, g5, hZ, hown, g8, g9⟩ := G.at hS
  have hn : n0 ≤ h.size := by rw [← eT]; exact Nat.le_trans g9 X.same.2.1
  subst hst hk hk2
  obtain ⟨cq, kq, qa, qb, qc⟩ := isOf hZ eT X0
  obtain ⟨v, vm₁, ⟨T', L', k', n'⟩, -, X', hS', hgr, ⟨L, ⟨hQ, hFr⟩, e1, e2, e3⟩, q'⟩ := X.virtualBackS g1 (y := y') (z := y') hown (mvT hZ wl) (mvT hZ wd) (notFace_of_selects (args := #[]) (mvT hZ wse)) (mvT hZ wse) (mvT hZ wn) hy (backOfV (W := W) (Q := fun v h L => Q' v h ∧ Fr n0 L) (con hn []) hZ (fun vm₁ u => hVv s vm0 locs vm₁ hV u) wc wz hf hlo) qa qc (g := mkF m pc ls (as.reverse ++ .ref a :: rest)) rfl (by rw [g3]; exact hsz) (Steps.refl _) (argsL := as) (rest := rest) hlen rfl (by show 2 * 0 + _ ≤ _; omega) (hb g2 hd) (fun _ _ => ⟨rfl, eT, hc, hl⟩)
  dsimp only [Pt.U, Pt.locs, Pt.cells, Pt.slots] at X' hS' hgr e1 e2 e3 q' hQ
  subst e1 e2 e3
  obtain ⟨s₂, o, q, r⟩ := k (p, l, e, R, s, m, args, below, meth, c, n0, Q, Vt) ⟨p, e, s, m, args, below, meth, c, rfl, G⟩ v T'.heap hQ T' _ T'.vm T'.heap.size X' (hS.trans hS' (Nat.le_trans hk0 (by rw [← eT]; exact hgr))) (Nat.le_refl _) rfl (Fr.app N hFr) trivial
  exact ⟨s₂, o, q'.trans q, r⟩
theorem Kx.callP (K : Kx E y bytes ml rt l Z R n0 Q Vt) {i : Nat} {y' : MethodName} {bytes' : ByteArray} {ml' : Nat} {rt' : Option FieldType} {rm : Room} {Q' : Option Value → Heap → Prop} (as rest : List Value) (W kc' kn' : Nat) {C : String} (hd : Dc bytes pc (.invokevirtual i) 3 pc')
    (wl : (Jvm.Cond.methodLink y.cls i y').before a0 Z = true) (wp : (Jvm.Cond.privateMethod y').before a0 Z = true) (wse : (Jvm.Cond.selects y'.cls y' y').before a0 Z = true) (wn : (Jvm.Cond.instanceMethod y').before a0 Z = true) (wz : (Jvm.Cond.initialized y'.cls).before a0 Z = true) (wc : (Jvm.Cond.code y' bytes' ml' rt').before a0 Z = true) (hy : y'.cls ≠ "java/lang/invoke/MethodHandle" ∧ y'.cls ≠ "java/lang/invoke/VarHandle")
    (con : Con l Z y' bytes' ml' rt' rm (.ref a :: as).toArray h n0 Q' Vx) (X0 : Exa Z h a C) (hst : st = as.reverse ++ .ref a :: rest) (hlen : ∀ sig, parseMethodDescriptor y'.desc = some sig → as.length = sig.parameters.length) (hsz : ls.size = ml) (hW : (rest.map fun v => v.category).sum ≤ W)
    (hf : rm.frames + 1 ≤ R.frames) (hlo : W + (ml' + 11) + rm.locals ≤ R.locals) (hk : kc + rm.cells = kc') (hk2 : kn + rm.slots = kn') (hc : kc' ≤ R.cells) (hl : kn' ≤ R.slots)
    (k : ∀ v h', Q' v h' → Wk E h' kc' kn' pc' ls (v.toList ++ rest)) : Wk E h kc kn pc ls st := by
  obtain ⟨hd, rfl⟩ := hd
  obtain ⟨p, e, s, m, args, below, meth, c, rfl, G⟩ := K
  intro T locs vm0 k0 X hS hk0 eT N hV
  obtain ⟨g1, g2, g3, g4, g5, hZ, hown, g8, g9⟩ := G.at hS
  have hn : n0 ≤ h.size := by rw [← eT]; exact Nat.le_trans g9 X.same.2.1
  subst hst hk hk2
  obtain ⟨cq, qa, qb⟩ := X0.cell
  obtain ⟨v, vm₁, ⟨T', L', k', n'⟩, -, X', hS', hgr, ⟨L, ⟨hQ, hFr⟩, e1, e2, e3⟩, q'⟩ := X.privateBackS g1 (y := y') hown (mvT hZ wl) (mvT hZ wn) (mvT hZ wse) (Cond.privateMethod_at (mvP hZ wp (args := #[]))) (mvT hZ wc) hy (backOfV (W := W) (Q := fun v h L => Q' v h ∧ Fr n0 L) (con hn []) hZ (fun vm₁ u => trivial) wc wz hf hlo) (g := mkF m pc ls (as.reverse ++ .ref a :: rest)) rfl (by rw [g3]; exact hsz) (Steps.refl _) (a := a) (by rw [eT]; exact qa) qb (argsL := as) (rest := rest) hlen rfl (by show 2 * 0 + _ ≤ _; omega) (hb g2 hd) (fun _ _ => ⟨rfl, eT, hc, hl⟩)
  dsimp only [Pt.U, Pt.locs, Pt.cells, Pt.slots] at X' hS' hgr e1 e2 e3 q' hQ
  subst e1 e2 e3
  obtain ⟨s₂, o, q, r⟩ := k v T'.heap hQ T' _ T'.vm T'.heap.size X' (hS.trans hS' (Nat.le_trans hk0 (by rw [← eT]; exact hgr))) (Nat.le_refl _) rfl (Fr.app N hFr) trivial
  exact ⟨s₂, o, q'.trans q, r⟩
theorem Kx.callP_c (K : Kx E y bytes ml rt l Z R n0 Q V) {i : Nat} {y' : MethodName} {bytes' : ByteArray} {ml' : Nat} {rt' : Option FieldType} {rm : Room} {Q' : Option Value → Heap → Prop} (as rest : List Value) (W kc' kn' : Nat) {C : String} (hd : Dc bytes pc (.invokevirtual i) 3 pc')
    (wl : (Jvm.Cond.methodLink y.cls i y').before a0 Z = true) (wp : (Jvm.Cond.privateMethod y').before a0 Z = true) (wse : (Jvm.Cond.selects y'.cls y' y').before a0 Z = true) (wn : (Jvm.Cond.instanceMethod y').before a0 Z = true) (wz : (Jvm.Cond.initialized y'.cls).before a0 Z = true) (wc : (Jvm.Cond.code y' bytes' ml' rt').before a0 Z = true) (hy : y'.cls ≠ "java/lang/invoke/MethodHandle" ∧ y'.cls ≠ "java/lang/invoke/VarHandle")
    (con : Con l Z y' bytes' ml' rt' rm (.ref a :: as).toArray h n0 Q' Vv) (hVv : ∀ (s : State) (vm0 : Vm) (locs : List Loc) (vm₁ : Vm), V vm0 locs → (s.setVm vm0).WarmedH vm₁ → Vv vm₁) (X0 : Exa Z h a C) (hst : st = as.reverse ++ .ref a :: rest) (hlen : ∀ sig, parseMethodDescriptor y'.desc = some sig → as.length = sig.parameters.length) (hsz : ls.size = ml) (hW : (rest.map fun v => v.category).sum ≤ W)
    (hf : rm.frames + 1 ≤ R.frames) (hlo : W + (ml' + 11) + rm.locals ≤ R.locals) (hk : kc + rm.cells = kc') (hk2 : kn + rm.slots = kn') (hc : kc' ≤ R.cells) (hl : kn' ≤ R.slots)
    (k : ∀ E', Kx E' y bytes ml rt l Z R n0 Q Vt → ∀ v h', Q' v h' → Wk E' h' kc' kn' pc' ls (v.toList ++ rest)) : Wk E h kc kn pc ls st := by
  obtain ⟨hd, rfl⟩ := hd
  obtain ⟨p, e, s, m, args, below, meth, c, rfl, G⟩ := K
  intro T locs vm0 k0 X hS hk0 eT N hV
  obtain ⟨g1, g2, g3, g4, g5, hZ, hown, g8, g9⟩ := G.at hS
  have hn : n0 ≤ h.size := by rw [← eT]; exact Nat.le_trans g9 X.same.2.1
  subst hst hk hk2
  obtain ⟨cq, qa, qb⟩ := X0.cell
  obtain ⟨v, vm₁, ⟨T', L', k', n'⟩, -, X', hS', hgr, ⟨L, ⟨hQ, hFr⟩, e1, e2, e3⟩, q'⟩ := X.privateBackS g1 (y := y') hown (mvT hZ wl) (mvT hZ wn) (mvT hZ wse) (Cond.privateMethod_at (mvP hZ wp (args := #[]))) (mvT hZ wc) hy (backOfV (W := W) (Q := fun v h L => Q' v h ∧ Fr n0 L) (con hn []) hZ (fun vm₁ u => hVv s vm0 locs vm₁ hV u) wc wz hf hlo) (g := mkF m pc ls (as.reverse ++ .ref a :: rest)) rfl (by rw [g3]; exact hsz) (Steps.refl _) (a := a) (by rw [eT]; exact qa) qb (argsL := as) (rest := rest) hlen rfl (by show 2 * 0 + _ ≤ _; omega) (hb g2 hd) (fun _ _ => ⟨rfl, eT, hc, hl⟩)
  dsimp only [Pt.U, Pt.locs, Pt.cells, Pt.slots] at X' hS' hgr e1 e2 e3 q' hQ
  subst e1 e2 e3
  obtain ⟨s₂, o, q, r⟩ := k (p, l, e, R, s, m, args, below, meth, c, n0, Q, Vt) ⟨p, e, s, m, args, below, meth, c, rfl, G⟩ v T'.heap hQ T' _ T'.vm T'.heap.size X' (hS.trans hS' (Nat.le_trans hk0 (by rw [← eT]; exact hgr))) (Nat.le_refl _) rfl (Fr.app N hFr) trivial
  exact ⟨s₂, o, q'.trans q, r⟩
/-- how a call goes on: it hands back one value and leaves the heap; a value; nothing; a reference -/
theorem goP {val : Value} {rest : List Value} (k : Wk E h kc kn pc ls (val :: rest)) : ∀ v h', (v = some val ∧ h' = h) → Wk E h' kc kn pc ls (v.toList ++ rest) := fun v h' q => by obtain ⟨rfl, rfl⟩ := q; exact k
theorem goV {val : Value} {rest : List Value} {Qh : Heap → Prop} (k : ∀ h', Qh h' → Wk E h' kc kn pc ls (val :: rest)) : ∀ v h', (v = some val ∧ Qh h') → Wk E h' kc kn pc ls (v.toList ++ rest) := fun v h' q => by obtain ⟨rfl, q⟩ := q; exact k h' q
theorem goN {rest : List Value} (k : Wk E h kc kn pc ls rest) : ∀ v h', (v = (none : Option Value) ∧ h' = h) → Wk E h' kc kn pc ls (v.toList ++ rest) := fun v h' q => by obtain ⟨rfl, rfl⟩ := q; exact k
theorem goU {rest : List Value} {Qh : Heap → Prop} (k : ∀ h', Qh h' → Wk E h' kc kn pc ls rest) : ∀ v h', (v = (none : Option Value) ∧ Qh h') → Wk E h' kc kn pc ls (v.toList ++ rest) := fun v h' q => by obtain ⟨rfl, q⟩ := q; exact k h' q
theorem goR {rest : List Value} {Qr : Addr → Heap → Prop} (k : ∀ a h', Qr a h' → Wk E h' kc kn pc ls (.ref a :: rest)) : ∀ v h', (∃ a, v = some (.ref a) ∧ Qr a h') → Wk E h' kc kn pc ls (v.toList ++ rest) := fun v h' q => by obtain ⟨a, rfl, q⟩ := q; exact k a h' q
theorem goI {rest : List Value} {Qr : Int32 → Heap → Prop} (k : ∀ a h', Qr a h' → Wk E h' kc kn pc ls (.int a :: rest)) : ∀ v h', (∃ a, v = some (.int a) ∧ Qr a h') → Wk E h' kc kn pc ls (v.toList ++ rest) := fun v h' q => by obtain ⟨a, rfl, q⟩ := q; exact k a h' q
theorem goIs {rest : List Value} {Pz : Int32 → Prop} (k : ∀ z, Pz z → Wk E h kc kn pc ls (.int z :: rest)) : ∀ v h', (∃ z, v = some (.int z) ∧ (h' = h ∧ Pz z)) → Wk E h' kc kn pc ls (v.toList ++ rest) := fun v h' q => by obtain ⟨z, rfl, rfl, q⟩ := q; exact k z q
theorem Kx.ldcS (K : Kx E y bytes ml rt l Z R n0 Q Vt) {i : Nat} {text : String} (nn kc' kn' : Nat) (hd : Dc bytes pc (.ldc i) 2 pc') (w : (Jvm.Cond.stringLink y.cls i text).before a0 Z = true) (wS : ∀ a ∈ Bundle.stringAtoms, a.before a0 Z = true) (hnn : 4 * text.toList.length ≤ nn) (hbig : nn ≤ 536870912)
    (hk : kc + 2 = kc') (hk2 : kn + (nn + 4) = kn') (hc : kc' ≤ R.cells) (hl : kn' ≤ R.slots) (k : ∀ a h', Ext h h' → Wk E h' kc' kn' pc' ls (.ref a :: st)) : Wk E h kc kn pc ls st := by
  obtain ⟨hd, rfl⟩ := hd
  obtain ⟨p, e, s, m, args, below, meth, c, rfl, G⟩ := K
  intro T locs vm0 k0 X hS hk0 eT N hV
  obtain ⟨g1, g2, g3, g4, g5, hZ, hown, g8, g9⟩ := G.at hS
  subst hk hk2
  obtain ⟨a, T', h', k1, X', e', E', hS', hk', -, -, q'⟩ := RoadKit.ldcS X g1 hZ hown w wS eT hS hk0 (g := mkF m pc ls st) rfl (hb g2 hd) hnn hbig hc hl
  obtain ⟨s₂, o, q, r⟩ := k a h' E' T' _ T'.vm k1 X' hS' hk' e' N trivial
  exact ⟨s₂, o, q' _ q, r⟩
theorem Kx.ldcS_c (K : Kx E y bytes ml rt l Z R n0 Q V) {i : Nat} {text : String} (nn kc' kn' : Nat) (hd : Dc bytes pc (.ldc i) 2 pc') (w : (Jvm.Cond.stringLink y.cls i text).before a0 Z = true) (wS : ∀ a ∈ Bundle.stringAtoms, a.before a0 Z = true) (hnn : 4 * text.toList.length ≤ nn) (hbig : nn ≤ 536870912)
    (hk : kc + 2 = kc') (hk2 : kn + (nn + 4) = kn') (hc : kc' ≤ R.cells) (hl : kn' ≤ R.slots) (k : ∀ E', Kx E' y bytes ml rt l Z R n0 Q Vt → ∀ a h', Ext h h' → Wk E' h' kc' kn' pc' ls (.ref a :: st)) : Wk E h kc kn pc ls st := by
  obtain ⟨hd, rfl⟩ := hd
  obtain ⟨p, e, s, m, args, below, meth, c, rfl, G⟩ := K
  intro T locs vm0 k0 X hS hk0 eT N hV
  obtain ⟨g1, g2, g3, g4, g5, hZ, hown, g8, g9⟩ := G.at hS
  subst hk hk2
  obtain ⟨a, T', h', k1, X', e', E', hS', hk', -, -, q'⟩ := RoadKit.ldcS X g1 hZ hown w wS eT hS hk0 (g := mkF m pc ls st) rfl (hb g2 hd) hnn hbig hc hl
  obtain ⟨s₂, o, q, r⟩ := k (p, l, e, R, s, m, args, below, meth, c, n0, Q, Vt) ⟨p, e, s, m, args, below, meth, c, rfl, G⟩ a h' E' T' _ T'.vm k1 X' hS' hk' e' N trivial
  exact ⟨s₂, o, q' _ q, r⟩
theorem Kx.ret (K : Kx E y bytes ml none l Z R n0 Q V) (hd : Dc bytes pc .return_ 1 pc') (hc : kc ≤ R.cells) (hl : kn ≤ R.slots) (hQ : Q none h) : Wk E h kc kn pc ls [] := by
  obtain ⟨p, e, s, m, args, below, meth, c, rfl, G⟩ := K
  intro T locs vm0 k0 X hS hk0 eT N hV
  obtain ⟨g1, g2, g3, g4, g5, hZ, hown, g8, g9⟩ := G.at hS
  obtain ⟨fs, hr, hrun, hended, hW⟩ := X.leaveW hS (by rw [eT]; exact hk0) (v := none) (fun _ => rfl) g5
  exact ⟨_, _, X.returnOut g1 g4 (hb g2 hd.1) hr, hrun, hended, _, _, rfl, ⟨(by show Q none T.heap; rw [eT]; exact hQ), N⟩, hW.1, hW.2.1, hW.2.2.1, hW.2.2.2.mono hc hl⟩
theorem Kx.retW {t : FieldType} {w : Value} {i : Instr} (K : Kx E y bytes ml (some t) l Z R n0 Q V) (hd : Dc bytes pc i 1 pc') (hna : narrow t w = w) (hi : (i = .ireturn ∧ (t = .int ∨ t = .boolean ∨ t = .byte ∨ t = .char ∨ t = .short) ∧ ∃ z, w = .int z) ∨ (i = .lreturn ∧ t = .long ∧ ∃ z, w = .long z) ∨ (i = .dreturn ∧ t = .double ∧ ∃ z, w = .double z) ∨ (i = .freturn ∧ t = .float ∧ ∃ z, w = .float z) ∨ (i = .areturn ∧ t.isReference = true ∧ w.isRef = true)) (hc : kc ≤ R.cells) (hl : kn ≤ R.slots) (hQ : Q (some w) h) : Wk E h kc kn pc ls (w :: st) := by
  obtain ⟨p, e, s, m, args, below, meth, c, rfl, G⟩ := K
  intro T locs vm0 k0 X hS hk0 eT N hV
  obtain ⟨g1, g2, g3, g4, g5, hZ, hown, g8, g9⟩ := G.at hS
  obtain ⟨fs, hr, hrun, hended, hW⟩ := X.leaveW hS (by rw [eT]; exact hk0) (v := some w) (fun h => by rw [g4] at h; cases h) g5
  exact ⟨_, _, retOut X g1 g4 hna hi (hb g2 hd.1) hr, hrun, hended, _, _, rfl, ⟨(by show Q (some w) T.heap; rw [eT]; exact hQ), N⟩, hW.1, hW.2.1, hW.2.2.1, hW.2.2.2.mono hc hl⟩
theorem Kx.ireturn {t : FieldType} {z : Int32} (K : Kx E y bytes ml (some t) l Z R n0 Q V) (hd : Dc bytes pc .ireturn 1 pc') (ht : t = .int ∨ t = .boolean ∨ t = .byte ∨ t = .char ∨ t = .short) (hna : narrow t (.int z) = .int z) (hc : kc ≤ R.cells) (hl : kn ≤ R.slots) (hQ : Q (some (.int z)) h) : Wk E h kc kn pc ls (.int z :: st) :=
  K.retW hd hna (Or.inl ⟨rfl, ht, z, rfl⟩) hc hl hQ
theorem Kx.lreturn {z : Int64} (K : Kx E y bytes ml (some .long) l Z R n0 Q V) (hd : Dc bytes pc .lreturn 1 pc') (hc : kc ≤ R.cells) (hl : kn ≤ R.slots) (hQ : Q (some (.long z)) h) : Wk E h kc kn pc ls (.long z :: st) :=
  K.retW hd rfl (Or.inr (Or.inl ⟨rfl, rfl, z, rfl⟩)) hc hl hQ
theorem Kx.areturn {t : FieldType} {w : Value} (K : Kx E y bytes ml (some t) l Z R n0 Q V) (hd : Dc bytes pc .areturn 1 pc') (ht : t.isReference = true) (hw : w.isRef = true) (hna : narrow t w = w) (hc : kc ≤ R.cells) (hl : kn ≤ R.slots) (hQ : Q (some w) h) : Wk E h kc kn pc ls (w :: st) :=
  K.retW hd hna (Or.inr (Or.inr (Or.inr (Or.inr ⟨rfl, ht, hw⟩)))) hc hl hQ
theorem narB {P : Prop} [Decidable P] : narrow .boolean (.int (if P then 1 else 0)) = .int (if P then 1 else 0) := by split <;> rfl
theorem narB' {P : Prop} [Decidable P] : narrow .boolean (.int (if P then 0 else 1)) = .int (if P then 0 else 1) := by split <;> rfl
end Own
end Jvm.Pilot.@@N@@
namespace Jvm.Pilot.@@N@@
open Jvm Jvm.ClassFile Sem Op Lib Jvm.Free Jvm.Stand Jvm.LawKit Jvm.RoadKit Bundle Jvm.Pilot.@@N@@.Jvm.D
theorem dIL_0 : Dc jdk_42_method_154_code 0 (.getstatic 38) 3 3 := ⟨by decide +kernel, rfl⟩
set_option maxRecDepth 65536 in
theorem wd51 {Z : State} {a0 : Array Value} (hw : ∀ d ∈ tables_1, d.before a0 Z = true) : (Jvm.Cond.fieldLink "java/lang/String" (38 : Nat) "java/lang/String" "COMPACT_STRINGS" "Z").before a0 Z = true := hw _ (List.mem_of_getElem? (i := 51) rfl)
theorem dIL_3 : Db jdk_42_method_154_code 3 (.ifCond .eq 14) 14 6 17 := ⟨by decide +kernel, rfl, by decide, by decide⟩
theorem dIL_6 : Dc jdk_42_method_154_code 6 (.aload_n 0) 1 7 := ⟨by decide +kernel, rfl⟩
theorem dIL_7 : Dc jdk_42_method_154_code 7 (.getfield 15) 3 10 := ⟨by decide +kernel, rfl⟩
set_option maxRecDepth 65536 in
theorem wd30 {Z : State} {a0 : Array Value} (hw : ∀ d ∈ tables_1, d.before a0 Z = true) : (Jvm.Cond.fieldLink "java/lang/String" (15 : Nat) "java/lang/String" "coder" "B").before a0 Z = true := hw _ (List.mem_of_getElem? (i := 30) rfl)
theorem dIL_10 : Db jdk_42_method_154_code 10 (.ifCond .ne 7) 7 13 17 := ⟨by decide +kernel, rfl, by decide, by decide⟩
theorem dIL_13 : Dc jdk_42_method_154_code 13 (.iconst 1) 1 14 := ⟨by decide +kernel, rfl⟩
theorem dIL_14 : Db jdk_42_method_154_code 14 (.goto 4) 4 17 18 := ⟨by decide +kernel, rfl, by decide, by decide⟩
theorem dIL_18 : Dc jdk_42_method_154_code 18 .ireturn 1 19 := ⟨by decide +kernel, rfl⟩
theorem dIL_17 : Dc jdk_42_method_154_code 17 (.iconst 0) 1 18 := ⟨by decide +kernel, rfl⟩
theorem efIL (m : MethodId) (x0 : Addr) : entryFrame m #[.ref x0] 1 = mkF m 0 #[.val (.ref x0)] [] := by first | (simp [entryFrame, mkF, argsToLocals, Value.category]; done) | rfl
theorem pnIL : plainFor (⟨"java/lang/String", "isLatin1", "()Z"⟩ : MethodName) = true := plainFor_of_name (by first | (simp [plainName, overriddenIn]; done) | decide +kernel)
theorem dCO_0 : Dc jdk_42_method_152_code 0 (.getstatic 38) 3 3 := ⟨by decide +kernel, rfl⟩
theorem dCO_3 : Db jdk_42_method_152_code 3 (.ifCond .eq 10) 10 6 13 := ⟨by decide +kernel, rfl, by decide, by decide⟩
theorem dCO_6 : Dc jdk_42_method_152_code 6 (.aload_n 0) 1 7 := ⟨by decide +kernel, rfl⟩
theorem dCO_7 : Dc jdk_42_method_152_code 7 (.getfield 15) 3 10 := ⟨by decide +kernel, rfl⟩
theorem dCO_10 : Db jdk_42_method_152_code 10 (.goto 4) 4 13 14 := ⟨by decide +kernel, rfl, by decide, by decide⟩
theorem dCO_14 : Dc jdk_42_method_152_code 14 .ireturn 1 15 := ⟨by decide +kernel, rfl⟩
theorem efCO (m : MethodId) (x0 : Addr) : entryFrame m #[.ref x0] 1 = mkF m 0 #[.val (.ref x0)] [] := by first | (simp [entryFrame, mkF, argsToLocals, Value.category]; done) | rfl
theorem pnCO : plainFor (⟨"java/lang/String", "coder", "()B"⟩ : MethodName) = true := plainFor_of_name (by first | (simp [plainName, overriddenIn]; done) | decide +kernel)
theorem dLE_0 : Dc jdk_42_method_54_code 0 (.aload_n 0) 1 1 := ⟨by decide +kernel, rfl⟩
theorem dLE_1 : Dc jdk_42_method_54_code 1 (.getfield 9) 3 4 := ⟨by decide +kernel, rfl⟩
set_option maxRecDepth 65536 in
theorem wd29 {Z : State} {a0 : Array Value} (hw : ∀ d ∈ tables_1, d.before a0 Z = true) : (Jvm.Cond.fieldLink "java/lang/String" (9 : Nat) "java/lang/String" "value" "[B").before a0 Z = true := hw _ (List.mem_of_getElem? (i := 29) rfl)
theorem dLE_4 : Dc jdk_42_method_54_code 4 .arraylength 1 5 := ⟨by decide +kernel, rfl⟩
theorem dLE_5 : Dc jdk_42_method_54_code 5 (.aload_n 0) 1 6 := ⟨by decide +kernel, rfl⟩
theorem dLE_6 : Dc jdk_42_method_54_code 6 (.invokevirtual 335) 3 9 := ⟨by decide +kernel, rfl⟩
set_option maxRecDepth 65536 in
theorem wd11 {Z : State} {a0 : Array Value} (hw : ∀ d ∈ tables_1, d.before a0 Z = true) : (Jvm.Cond.initialized "java/lang/String").before a0 Z = true := hw _ (List.mem_of_getElem? (i := 11) rfl)
theorem pd_1 : parseMethodDescriptor "()B" = some ⟨[], some .byte⟩ := by decide +kernel
set_option maxRecDepth 65536 in
theorem wd57 {Z : State} {a0 : Array Value} (hw : ∀ d ∈ tables_1, d.before a0 Z = true) : (Jvm.Cond.methodLink "java/lang/String" (335 : Nat) ({ cls := "java/lang/String", name := "coder", desc := "()B" } : Jvm.MethodName)).before a0 Z = true := hw _ (List.mem_of_getElem? (i := 57) rfl)
set_option maxRecDepth 65536 in
theorem wd58 {Z : State} {a0 : Array Value} (hw : ∀ d ∈ tables_1, d.before a0 Z = true) : (Jvm.Cond.declares ({ cls := "java/lang/String", name := "coder", desc := "()B" } : Jvm.MethodName)).before a0 Z = true := hw _ (List.mem_of_getElem? (i := 58) rfl)
set_option maxRecDepth 65536 in
theorem wd60 {Z : State} {a0 : Array Value} (hw : ∀ d ∈ tables_1, d.before a0 Z = true) : (Jvm.Cond.selects "java/lang/String" ({ cls := "java/lang/String", name := "coder", desc := "()B" } : Jvm.MethodName) ({ cls := "java/lang/String", name := "coder", desc := "()B" } : Jvm.MethodName)).before a0 Z = true := hw _ (List.mem_of_getElem? (i := 60) rfl)
set_option maxRecDepth 65536 in
theorem wd59 {Z : State} {a0 : Array Value} (hw : ∀ d ∈ tables_1, d.before a0 Z = true) : (Jvm.Cond.instanceMethod ({ cls := "java/lang/String", name := "coder", desc := "()B" } : Jvm.MethodName)).before a0 Z = true := hw _ (List.mem_of_getElem? (i := 59) rfl)
set_option maxRecDepth 65536 in
theorem wd61 {Z : State} {a0 : Array Value} (hw : ∀ d ∈ tables_1, d.before a0 Z = true) : (Jvm.Cond.code ({ cls := "java/lang/String", name := "coder", desc := "()B" } : Jvm.MethodName) jdk_42_method_152_code (1 : Nat) (Option.some Jvm.ClassFile.FieldType.byte)).before a0 Z = true := hw _ (List.mem_of_getElem? (i := 61) rfl)
theorem dLE_9 : Dc jdk_42_method_54_code 9 .ishr 1 10 := ⟨by decide +kernel, rfl⟩
theorem dLE_10 : Dc jdk_42_method_54_code 10 .ireturn 1 11 := ⟨by decide +kernel, rfl⟩
theorem efLE (m : MethodId) (x0 : Addr) : entryFrame m #[.ref x0] 1 = mkF m 0 #[.val (.ref x0)] [] := by first | (simp [entryFrame, mkF, argsToLocals, Value.category]; done) | rfl
theorem pnLE : plainFor (⟨"java/lang/String", "length", "()I"⟩ : MethodName) = true := plainFor_of_name (by first | (simp [plainName, overriddenIn]; done) | decide +kernel)
theorem dCE_0 : Dc jdk_43_method_4_code 0 (.iload_n 0) 1 1 := ⟨by decide +kernel, rfl⟩
theorem dCE_1 : Db jdk_43_method_4_code 1 (.ifCond .lt 14) 14 4 15 := ⟨by decide +kernel, rfl, by decide, by decide⟩
theorem dCE_4 : Dc jdk_43_method_4_code 4 (.iload_n 0) 1 5 := ⟨by decide +kernel, rfl⟩
theorem dCE_5 : Dc jdk_43_method_4_code 5 (.sipush 255) 3 8 := ⟨by decide +kernel, rfl⟩
theorem dCE_8 : Db jdk_43_method_4_code 8 (.if_icmp .gt 7) 7 11 15 := ⟨by decide +kernel, rfl, by decide, by decide⟩
theorem dCE_15 : Dc jdk_43_method_4_code 15 (.iconst 0) 1 16 := ⟨by decide +kernel, rfl⟩
theorem dCE_16 : Dc jdk_43_method_4_code 16 .ireturn 1 17 := ⟨by decide +kernel, rfl⟩
theorem efCE (m : MethodId) (x0 : Int32) : entryFrame m #[.int x0] 1 = mkF m 0 #[.val (.int x0)] [] := by first | (simp [entryFrame, mkF, argsToLocals, Value.category]; done) | rfl
theorem pnCE : plainFor (⟨"java/lang/StringLatin1", "canEncode", "(I)Z"⟩ : MethodName) = true := plainFor_of_name (by first | (simp [plainName, overriddenIn]; done) | decide +kernel)
theorem dLI_0 : Dc jdk_43_method_22_code 0 (.iload_n 1) 1 1 := ⟨by decide +kernel, rfl⟩
theorem dLI_1 : Dc jdk_43_method_22_code 1 (.invokestatic 88) 3 4 := ⟨by decide +kernel, rfl⟩
set_option maxRecDepth 65536 in
theorem wd64 {Z : State} {a0 : Array Value} (hw : ∀ d ∈ tables_1, d.before a0 Z = true) : (Jvm.Cond.initialized "java/lang/StringLatin1").before a0 Z = true := hw _ (List.mem_of_getElem? (i := 64) rfl)
theorem pd_2 : parseMethodDescriptor "(I)Z" = some ⟨[.int], some .boolean⟩ := by decide +kernel
set_option maxRecDepth 65536 in
theorem wd66 {Z : State} {a0 : Array Value} (hw : ∀ d ∈ tables_1, d.before a0 Z = true) : (Jvm.Cond.methodLink "java/lang/StringLatin1" (88 : Nat) ({ cls := "java/lang/StringLatin1", name := "canEncode", desc := "(I)Z" } : Jvm.MethodName)).before a0 Z = true := hw _ (List.mem_of_getElem? (i := 66) rfl)
set_option maxRecDepth 65536 in
theorem wd67 {Z : State} {a0 : Array Value} (hw : ∀ d ∈ tables_1, d.before a0 Z = true) : (Jvm.Cond.static ({ cls := "java/lang/StringLatin1", name := "canEncode", desc := "(I)Z" } : Jvm.MethodName)).before a0 Z = true := hw _ (List.mem_of_getElem? (i := 67) rfl)
set_option maxRecDepth 65536 in
theorem wd68 {Z : State} {a0 : Array Value} (hw : ∀ d ∈ tables_1, d.before a0 Z = true) : (Jvm.Cond.code ({ cls := "java/lang/StringLatin1", name := "canEncode", desc := "(I)Z" } : Jvm.MethodName) jdk_43_method_4_code (1 : Nat) (Option.some Jvm.ClassFile.FieldType.boolean)).before a0 Z = true := hw _ (List.mem_of_getElem? (i := 68) rfl)
theorem dLI_4 : Db jdk_43_method_22_code 4 (.ifCond .ne 5) 5 7 9 := ⟨by decide +kernel, rfl, by decide, by decide⟩
theorem dLI_7 : Dc jdk_43_method_22_code 7 (.iconst (-1)) 1 8 := ⟨by decide +kernel, rfl⟩
theorem dLI_8 : Dc jdk_43_method_22_code 8 .ireturn 1 9 := ⟨by decide +kernel, rfl⟩
theorem efLI (m : MethodId) (x0 : Addr) (x1 : Int32) (x2 : Int32) (x3 : Int32) : entryFrame m #[.ref x0, .int x1, .int x2, .int x3] 4 = mkF m 0 #[.val (.ref x0), .val (.int x1), .val (.int x2), .val (.int x3)] [] := by first | (simp [entryFrame, mkF, argsToLocals, Value.category]; done) | rfl
theorem pnLI : plainFor (⟨"java/lang/StringLatin1", "indexOf", "([BIII)I"⟩ : MethodName) = true := plainFor_of_name (by first | (simp [plainName, overriddenIn]; done) | decide +kernel)
theorem dMX_0 : Dc jdk_29_method_65_code 0 (.iload_n 0) 1 1 := ⟨by decide +kernel, rfl⟩
theorem dMX_1 : Dc jdk_29_method_65_code 1 (.iload_n 1) 1 2 := ⟨by decide +kernel, rfl⟩
theorem dMX_2 : Db jdk_29_method_65_code 2 (.if_icmp .lt 7) 7 5 9 := ⟨by decide +kernel, rfl, by decide, by decide⟩
theorem dMX_9 : Dc jdk_29_method_65_code 9 (.iload_n 1) 1 10 := ⟨by decide +kernel, rfl⟩
theorem dMX_10 : Dc jdk_29_method_65_code 10 .ireturn 1 11 := ⟨by decide +kernel, rfl⟩
theorem dMX_5 : Dc jdk_29_method_65_code 5 (.iload_n 0) 1 6 := ⟨by decide +kernel, rfl⟩
theorem dMX_6 : Db jdk_29_method_65_code 6 (.goto 4) 4 9 10 := ⟨by decide +kernel, rfl, by decide, by decide⟩
theorem efMX (m : MethodId) (x0 : Int32) (x1 : Int32) : entryFrame m #[.int x0, .int x1] 2 = mkF m 0 #[.val (.int x0), .val (.int x1)] [] := by first | (simp [entryFrame, mkF, argsToLocals, Value.category]; done) | rfl
theorem pnMX : plainFor (⟨"java/lang/Math", "max", "(II)I"⟩ : MethodName) = true := Jvm.Free.JP.mathPlain rfl (by decide +kernel)
theorem dMN_0 : Dc jdk_29_method_69_code 0 (.iload_n 0) 1 1 := ⟨by decide +kernel, rfl⟩
theorem dMN_1 : Dc jdk_29_method_69_code 1 (.iload_n 1) 1 2 := ⟨by decide +kernel, rfl⟩
theorem dMN_2 : Db jdk_29_method_69_code 2 (.if_icmp .gt 7) 7 5 9 := ⟨by decide +kernel, rfl, by decide, by decide⟩
theorem dMN_9 : Dc jdk_29_method_69_code 9 (.iload_n 1) 1 10 := ⟨by decide +kernel, rfl⟩
theorem dMN_10 : Dc jdk_29_method_69_code 10 .ireturn 1 11 := ⟨by decide +kernel, rfl⟩
theorem dMN_5 : Dc jdk_29_method_69_code 5 (.iload_n 0) 1 6 := ⟨by decide +kernel, rfl⟩
theorem dMN_6 : Db jdk_29_method_69_code 6 (.goto 4) 4 9 10 := ⟨by decide +kernel, rfl, by decide, by decide⟩
theorem efMN (m : MethodId) (x0 : Int32) (x1 : Int32) : entryFrame m #[.int x0, .int x1] 2 = mkF m 0 #[.val (.int x0), .val (.int x1)] [] := by first | (simp [entryFrame, mkF, argsToLocals, Value.category]; done) | rfl
theorem pnMN : plainFor (⟨"java/lang/Math", "min", "(II)I"⟩ : MethodName) = true := Jvm.Free.JP.mathPlain rfl (by decide +kernel)
theorem dUL_0 : Dc jdk_52_method_6_code 0 (.aload_n 0) 1 1 := ⟨by decide +kernel, rfl⟩
theorem dUL_1 : Dc jdk_52_method_6_code 1 .arraylength 1 2 := ⟨by decide +kernel, rfl⟩
theorem dUL_2 : Dc jdk_52_method_6_code 2 (.iconst 1) 1 3 := ⟨by decide +kernel, rfl⟩
theorem dUL_3 : Dc jdk_52_method_6_code 3 .ishr 1 4 := ⟨by decide +kernel, rfl⟩
theorem dUL_4 : Dc jdk_52_method_6_code 4 .ireturn 1 5 := ⟨by decide +kernel, rfl⟩
theorem efUL (m : MethodId) (x0 : Addr) : entryFrame m #[.ref x0] 1 = mkF m 0 #[.val (.ref x0)] [] := by first | (simp [entryFrame, mkF, argsToLocals, Value.category]; done) | rfl
theorem pnUL : plainFor (⟨"java/lang/StringUTF16", "length", "([B)I"⟩ : MethodName) = true := plainFor_of_name (by first | (simp [plainName, overriddenIn]; done) | decide +kernel)
theorem dCF_0 : Dc jdk_41_method_12_code 0 (.iload_n 0) 1 1 := ⟨by decide +kernel, rfl⟩
theorem dCF_1 : Db jdk_41_method_12_code 1 (.ifCond .lt 13) 13 4 14 := ⟨by decide +kernel, rfl, by decide, by decide⟩
theorem dCF_4 : Dc jdk_41_method_12_code 4 (.iload_n 0) 1 5 := ⟨by decide +kernel, rfl⟩
theorem dCF_5 : Dc jdk_41_method_12_code 5 (.iload_n 1) 1 6 := ⟨by decide +kernel, rfl⟩
theorem dCF_6 : Db jdk_41_method_12_code 6 (.if_icmp .gt 8) 8 9 14 := ⟨by decide +kernel, rfl, by decide, by decide⟩
theorem dCF_9 : Dc jdk_41_method_12_code 9 (.iload_n 1) 1 10 := ⟨by decide +kernel, rfl⟩
theorem dCF_10 : Dc jdk_41_method_12_code 10 (.iload_n 2) 1 11 := ⟨by decide +kernel, rfl⟩
theorem dCF_11 : Db jdk_41_method_12_code 11 (.if_icmp .le 11) 11 14 22 := ⟨by decide +kernel, rfl, by decide, by decide⟩
theorem dCF_22 : Dc jdk_41_method_12_code 22 (.iload_n 0) 1 23 := ⟨by decide +kernel, rfl⟩
theorem dCF_23 : Dc jdk_41_method_12_code 23 .ireturn 1 24 := ⟨by decide +kernel, rfl⟩
theorem efCF (m : MethodId) (x0 : Int32) (x1 : Int32) (x2 : Int32) (x3 : Value) (c3 : x3.isRef = true) : entryFrame m #[.int x0, .int x1, .int x2, x3] 4 = mkF m 0 #[.val (.int x0), .val (.int x1), .val (.int x2), .val x3] [] := by rcases ref_cases c3 with rfl | ⟨y3, rfl⟩ <;> first | (simp [entryFrame, mkF, argsToLocals, Value.category]; done) | rfl
theorem pnCF : plainFor (⟨"jdk/internal/util/Preconditions", "checkFromToIndex", "(IIILjava/util/function/BiFunction;)I"⟩ : MethodName) = true := plainFor_of_name (by first | (simp [plainName, overriddenIn]; done) | decide +kernel)
theorem dCB_0 : Dc jdk_42_method_158_code 0 (.iload_n 0) 1 1 := ⟨by decide +kernel, rfl⟩
theorem dCB_1 : Dc jdk_42_method_158_code 1 (.iload_n 1) 1 2 := ⟨by decide +kernel, rfl⟩
theorem dCB_2 : Dc jdk_42_method_158_code 2 (.iload_n 2) 1 3 := ⟨by decide +kernel, rfl⟩
theorem dCB_3 : Dc jdk_42_method_158_code 3 (.getstatic 1053) 3 6 := ⟨by decide +kernel, rfl⟩
set_option maxRecDepth 65536 in
theorem wd121 {Z : State} {a0 : Array Value} (hw : ∀ d ∈ tables_1, d.before a0 Z = true) : (Jvm.Cond.fieldLink "java/lang/String" (1053 : Nat) "jdk/internal/util/Preconditions" "SIOOBE_FORMATTER" "Ljava/util/function/BiFunction;").before a0 Z = true := hw _ (List.mem_of_getElem? (i := 121) rfl)
theorem dCB_6 : Dc jdk_42_method_158_code 6 (.invokestatic 1062) 3 9 := ⟨by decide +kernel, rfl⟩
set_option maxRecDepth 65536 in
theorem wd122 {Z : State} {a0 : Array Value} (hw : ∀ d ∈ tables_1, d.before a0 Z = true) : (Jvm.Cond.initialized "jdk/internal/util/Preconditions").before a0 Z = true := hw _ (List.mem_of_getElem? (i := 122) rfl)
theorem pd_3 : parseMethodDescriptor "(IIILjava/util/function/BiFunction;)I" = some ⟨[.int, .int, .int, (.object "java/util/function/BiFunction")], some .int⟩ := by decide +kernel
set_option maxRecDepth 65536 in
theorem wd123 {Z : State} {a0 : Array Value} (hw : ∀ d ∈ tables_1, d.before a0 Z = true) : (Jvm.Cond.methodLink "java/lang/String" (1062 : Nat) ({ cls := "jdk/internal/util/Preconditions", name := "checkFromToIndex", desc := "(IIILjava/util/function/BiFunction;)I" } : Jvm.MethodName)).before a0 Z = true := hw _ (List.mem_of_getElem? (i := 123) rfl)
set_option maxRecDepth 65536 in
theorem wd124 {Z : State} {a0 : Array Value} (hw : ∀ d ∈ tables_1, d.before a0 Z = true) : (Jvm.Cond.static ({ cls := "jdk/internal/util/Preconditions", name := "checkFromToIndex", desc := "(IIILjava/util/function/BiFunction;)I" } : Jvm.MethodName)).before a0 Z = true := hw _ (List.mem_of_getElem? (i := 124) rfl)
set_option maxRecDepth 65536 in
theorem wd125 {Z : State} {a0 : Array Value} (hw : ∀ d ∈ tables_1, d.before a0 Z = true) : (Jvm.Cond.code ({ cls := "jdk/internal/util/Preconditions", name := "checkFromToIndex", desc := "(IIILjava/util/function/BiFunction;)I" } : Jvm.MethodName) jdk_41_method_12_code (4 : Nat) (Option.some Jvm.ClassFile.FieldType.int)).before a0 Z = true := hw _ (List.mem_of_getElem? (i := 125) rfl)
theorem dCB_9 : Dc jdk_42_method_158_code 9 .pop 1 10 := ⟨by decide +kernel, rfl⟩
theorem dCB_10 : Dc jdk_42_method_158_code 10 .return_ 1 11 := ⟨by decide +kernel, rfl⟩
theorem efCB (m : MethodId) (x0 : Int32) (x1 : Int32) (x2 : Int32) : entryFrame m #[.int x0, .int x1, .int x2] 3 = mkF m 0 #[.val (.int x0), .val (.int x1), .val (.int x2)] [] := by first | (simp [entryFrame, mkF, argsToLocals, Value.category]; done) | rfl
theorem pnCB : plainFor (⟨"java/lang/String", "checkBoundsBeginEnd", "(III)V"⟩ : MethodName) = true := plainFor_of_name (by first | (simp [plainName, overriddenIn]; done) | decide +kernel)
theorem dCU_0 : Dc jdk_52_method_93_code 0 (.iload_n 0) 1 1 := ⟨by decide +kernel, rfl⟩
theorem dCU_1 : Dc jdk_52_method_93_code 1 (.iload_n 1) 1 2 := ⟨by decide +kernel, rfl⟩
theorem dCU_2 : Dc jdk_52_method_93_code 2 (.aload_n 2) 1 3 := ⟨by decide +kernel, rfl⟩
theorem dCU_3 : Dc jdk_52_method_93_code 3 (.invokestatic 48) 3 6 := ⟨by decide +kernel, rfl⟩
set_option maxRecDepth 65536 in
theorem wd71 {Z : State} {a0 : Array Value} (hw : ∀ d ∈ tables_1, d.before a0 Z = true) : (Jvm.Cond.initialized "java/lang/StringUTF16").before a0 Z = true := hw _ (List.mem_of_getElem? (i := 71) rfl)
theorem pd_4 : parseMethodDescriptor "([B)I" = some ⟨[(.array .byte)], some .int⟩ := by decide +kernel
set_option maxRecDepth 65536 in
theorem wd115 {Z : State} {a0 : Array Value} (hw : ∀ d ∈ tables_1, d.before a0 Z = true) : (Jvm.Cond.methodLink "java/lang/StringUTF16" (48 : Nat) ({ cls := "java/lang/StringUTF16", name := "length", desc := "([B)I" } : Jvm.MethodName)).before a0 Z = true := hw _ (List.mem_of_getElem? (i := 115) rfl)
set_option maxRecDepth 65536 in
theorem wd116 {Z : State} {a0 : Array Value} (hw : ∀ d ∈ tables_1, d.before a0 Z = true) : (Jvm.Cond.static ({ cls := "java/lang/StringUTF16", name := "length", desc := "([B)I" } : Jvm.MethodName)).before a0 Z = true := hw _ (List.mem_of_getElem? (i := 116) rfl)
set_option maxRecDepth 65536 in
theorem wd117 {Z : State} {a0 : Array Value} (hw : ∀ d ∈ tables_1, d.before a0 Z = true) : (Jvm.Cond.code ({ cls := "java/lang/StringUTF16", name := "length", desc := "([B)I" } : Jvm.MethodName) jdk_52_method_6_code (1 : Nat) (Option.some Jvm.ClassFile.FieldType.int)).before a0 Z = true := hw _ (List.mem_of_getElem? (i := 117) rfl)
theorem dCU_6 : Dc jdk_52_method_93_code 6 (.invokestatic 241) 3 9 := ⟨by decide +kernel, rfl⟩
theorem pd_5 : parseMethodDescriptor "(III)V" = some ⟨[.int, .int, .int], none⟩ := by decide +kernel
set_option maxRecDepth 65536 in
theorem wd118 {Z : State} {a0 : Array Value} (hw : ∀ d ∈ tables_1, d.before a0 Z = true) : (Jvm.Cond.methodLink "java/lang/StringUTF16" (241 : Nat) ({ cls := "java/lang/String", name := "checkBoundsBeginEnd", desc := "(III)V" } : Jvm.MethodName)).before a0 Z = true := hw _ (List.mem_of_getElem? (i := 118) rfl)
set_option maxRecDepth 65536 in
theorem wd119 {Z : State} {a0 : Array Value} (hw : ∀ d ∈ tables_1, d.before a0 Z = true) : (Jvm.Cond.static ({ cls := "java/lang/String", name := "checkBoundsBeginEnd", desc := "(III)V" } : Jvm.MethodName)).before a0 Z = true := hw _ (List.mem_of_getElem? (i := 119) rfl)
set_option maxRecDepth 65536 in
theorem wd120 {Z : State} {a0 : Array Value} (hw : ∀ d ∈ tables_1, d.before a0 Z = true) : (Jvm.Cond.code ({ cls := "java/lang/String", name := "checkBoundsBeginEnd", desc := "(III)V" } : Jvm.MethodName) jdk_42_method_158_code (3 : Nat) (Option.none : Option Jvm.ClassFile.FieldType)).before a0 Z = true := hw _ (List.mem_of_getElem? (i := 120) rfl)
theorem dCU_9 : Dc jdk_52_method_93_code 9 .return_ 1 10 := ⟨by decide +kernel, rfl⟩
theorem efCU (m : MethodId) (x0 : Int32) (x1 : Int32) (x2 : Addr) : entryFrame m #[.int x0, .int x1, .ref x2] 3 = mkF m 0 #[.val (.int x0), .val (.int x1), .val (.ref x2)] [] := by first | (simp [entryFrame, mkF, argsToLocals, Value.category]; done) | rfl
theorem pnCU : plainFor (⟨"java/lang/StringUTF16", "checkBoundsBeginEnd", "(II[B)V"⟩ : MethodName) = true := plainFor_of_name (by first | (simp [plainName, overriddenIn]; done) | decide +kernel)
theorem dGC_0 : Dc jdk_52_method_5_code 0 (.getstatic 44) 3 3 := ⟨by decide +kernel, rfl⟩
set_option maxRecDepth 65536 in
theorem wd89 {Z : State} {a0 : Array Value} (hw : ∀ d ∈ tables_1, d.before a0 Z = true) : (Jvm.Cond.fieldLink "java/lang/StringUTF16" (44 : Nat) "java/lang/StringUTF16" "$assertionsDisabled" "Z").before a0 Z = true := hw _ (List.mem_of_getElem? (i := 89) rfl)
theorem dGC_3 : Db jdk_52_method_5_code 3 (.ifCond .ne 25) 25 6 28 := ⟨by decide +kernel, rfl, by decide, by decide⟩
theorem dGC_28 : Dc jdk_52_method_5_code 28 (.iload_n 1) 1 29 := ⟨by decide +kernel, rfl⟩
theorem dGC_29 : Dc jdk_52_method_5_code 29 (.iconst 1) 1 30 := ⟨by decide +kernel, rfl⟩
theorem dGC_30 : Dc jdk_52_method_5_code 30 .ishl 1 31 := ⟨by decide +kernel, rfl⟩
theorem dGC_31 : Dc jdk_52_method_5_code 31 (.istore_n 1) 1 32 := ⟨by decide +kernel, rfl⟩
theorem dGC_32 : Dc jdk_52_method_5_code 32 (.aload_n 0) 1 33 := ⟨by decide +kernel, rfl⟩
theorem dGC_33 : Dc jdk_52_method_5_code 33 (.iload_n 1) 1 34 := ⟨by decide +kernel, rfl⟩
theorem dGC_34 : Dc jdk_52_method_5_code 34 (.iinc 1 1) 3 37 := ⟨by decide +kernel, rfl⟩
theorem dGC_37 : Dc jdk_52_method_5_code 37 .baload 1 38 := ⟨by decide +kernel, rfl⟩
theorem dGC_38 : Dc jdk_52_method_5_code 38 (.sipush 255) 3 41 := ⟨by decide +kernel, rfl⟩
theorem dGC_41 : Dc jdk_52_method_5_code 41 .iand 1 42 := ⟨by decide +kernel, rfl⟩
theorem dGC_42 : Dc jdk_52_method_5_code 42 (.getstatic 59) 3 45 := ⟨by decide +kernel, rfl⟩
set_option maxRecDepth 65536 in
theorem wd90 {Z : State} {a0 : Array Value} (hw : ∀ d ∈ tables_1, d.before a0 Z = true) : (Jvm.Cond.fieldLink "java/lang/StringUTF16" (59 : Nat) "java/lang/StringUTF16" "HI_BYTE_SHIFT" "I").before a0 Z = true := hw _ (List.mem_of_getElem? (i := 90) rfl)
theorem dGC_45 : Dc jdk_52_method_5_code 45 .ishl 1 46 := ⟨by decide +kernel, rfl⟩
theorem dGC_46 : Dc jdk_52_method_5_code 46 (.aload_n 0) 1 47 := ⟨by decide +kernel, rfl⟩
theorem dGC_47 : Dc jdk_52_method_5_code 47 (.iload_n 1) 1 48 := ⟨by decide +kernel, rfl⟩
theorem dGC_48 : Dc jdk_52_method_5_code 48 .baload 1 49 := ⟨by decide +kernel, rfl⟩
theorem dGC_49 : Dc jdk_52_method_5_code 49 (.sipush 255) 3 52 := ⟨by decide +kernel, rfl⟩
theorem dGC_52 : Dc jdk_52_method_5_code 52 .iand 1 53 := ⟨by decide +kernel, rfl⟩
theorem dGC_53 : Dc jdk_52_method_5_code 53 (.getstatic 63) 3 56 := ⟨by decide +kernel, rfl⟩
set_option maxRecDepth 65536 in
theorem wd91 {Z : State} {a0 : Array Value} (hw : ∀ d ∈ tables_1, d.before a0 Z = true) : (Jvm.Cond.fieldLink "java/lang/StringUTF16" (63 : Nat) "java/lang/StringUTF16" "LO_BYTE_SHIFT" "I").before a0 Z = true := hw _ (List.mem_of_getElem? (i := 91) rfl)
theorem dGC_56 : Dc jdk_52_method_5_code 56 .ishl 1 57 := ⟨by decide +kernel, rfl⟩
theorem dGC_57 : Dc jdk_52_method_5_code 57 .ior 1 58 := ⟨by decide +kernel, rfl⟩
theorem dGC_58 : Dc jdk_52_method_5_code 58 .i2c 1 59 := ⟨by decide +kernel, rfl⟩
theorem dGC_59 : Dc jdk_52_method_5_code 59 .ireturn 1 60 := ⟨by decide +kernel, rfl⟩
theorem efGC (m : MethodId) (x0 : Addr) (x1 : Int32) : entryFrame m #[.ref x0, .int x1] 2 = mkF m 0 #[.val (.ref x0), .val (.int x1)] [] := by first | (simp [entryFrame, mkF, argsToLocals, Value.category]; done) | rfl
theorem pnGC : plainFor (⟨"java/lang/StringUTF16", "getChar", "([BI)C"⟩ : MethodName) = true := plainFor_of_name (by first | (simp [plainName, overriddenIn]; done) | decide +kernel)
theorem dIU_0 : Dc jdk_52_method_48_code 0 (.iload_n 2) 1 1 := ⟨by decide +kernel, rfl⟩
theorem dIU_1 : Dc jdk_52_method_48_code 1 (.istore 4) 2 3 := ⟨by decide +kernel, rfl⟩
theorem dIU_3 : Dc jdk_52_method_48_code 3 (.iload 4) 2 5 := ⟨by decide +kernel, rfl⟩
theorem dIU_5 : Dc jdk_52_method_48_code 5 (.iload_n 3) 1 6 := ⟨by decide +kernel, rfl⟩
theorem dIU_6 : Db jdk_52_method_48_code 6 (.if_icmp .ge 22) 22 9 28 := ⟨by decide +kernel, rfl, by decide, by decide⟩
theorem dIU_28 : Dc jdk_52_method_48_code 28 (.iconst (-1)) 1 29 := ⟨by decide +kernel, rfl⟩
theorem dIU_29 : Dc jdk_52_method_48_code 29 .ireturn 1 30 := ⟨by decide +kernel, rfl⟩
theorem dIU_9 : Dc jdk_52_method_48_code 9 (.aload_n 0) 1 10 := ⟨by decide +kernel, rfl⟩
theorem dIU_10 : Dc jdk_52_method_48_code 10 (.iload 4) 2 12 := ⟨by decide +kernel, rfl⟩
theorem dIU_12 : Dc jdk_52_method_48_code 12 (.invokestatic 71) 3 15 := ⟨by decide +kernel, rfl⟩
theorem pd_6 : parseMethodDescriptor "([BI)C" = some ⟨[(.array .byte), .int], some .char⟩ := by decide +kernel
set_option maxRecDepth 65536 in
theorem wd92 {Z : State} {a0 : Array Value} (hw : ∀ d ∈ tables_1, d.before a0 Z = true) : (Jvm.Cond.methodLink "java/lang/StringUTF16" (71 : Nat) ({ cls := "java/lang/StringUTF16", name := "getChar", desc := "([BI)C" } : Jvm.MethodName)).before a0 Z = true := hw _ (List.mem_of_getElem? (i := 92) rfl)
set_option maxRecDepth 65536 in
theorem wd93 {Z : State} {a0 : Array Value} (hw : ∀ d ∈ tables_1, d.before a0 Z = true) : (Jvm.Cond.static ({ cls := "java/lang/StringUTF16", name := "getChar", desc := "([BI)C" } : Jvm.MethodName)).before a0 Z = true := hw _ (List.mem_of_getElem? (i := 93) rfl)
set_option maxRecDepth 65536 in
theorem wd94 {Z : State} {a0 : Array Value} (hw : ∀ d ∈ tables_1, d.before a0 Z = true) : (Jvm.Cond.code ({ cls := "java/lang/StringUTF16", name := "getChar", desc := "([BI)C" } : Jvm.MethodName) jdk_52_method_5_code (2 : Nat) (Option.some Jvm.ClassFile.FieldType.char)).before a0 Z = true := hw _ (List.mem_of_getElem? (i := 94) rfl)
theorem dIU_15 : Dc jdk_52_method_48_code 15 (.iload_n 1) 1 16 := ⟨by decide +kernel, rfl⟩
theorem dIU_16 : Db jdk_52_method_48_code 16 (.if_icmp .ne 6) 6 19 22 := ⟨by decide +kernel, rfl, by decide, by decide⟩
theorem dIU_19 : Dc jdk_52_method_48_code 19 (.iload 4) 2 21 := ⟨by decide +kernel, rfl⟩
theorem dIU_21 : Dc jdk_52_method_48_code 21 .ireturn 1 22 := ⟨by decide +kernel, rfl⟩
theorem dIU_22 : Dc jdk_52_method_48_code 22 (.iinc 4 1) 3 25 := ⟨by decide +kernel, rfl⟩
theorem dIU_25 : Db jdk_52_method_48_code 25 (.goto (-22)) (-22) 28 3 := ⟨by decide +kernel, rfl, by decide, by decide⟩
theorem efIU (m : MethodId) (x0 : Addr) (x1 : Int32) (x2 : Int32) (x3 : Int32) : entryFrame m #[.ref x0, .int x1, .int x2, .int x3] 5 = mkF m 0 #[.val (.ref x0), .val (.int x1), .val (.int x2), .val (.int x3), .unset] [] := by first | (simp [entryFrame, mkF, argsToLocals, Value.category]; done) | rfl
theorem pnIU : plainFor (⟨"java/lang/StringUTF16", "indexOfCharUnsafe", "([BIII)I"⟩ : MethodName) = true := plainFor_of_name (by first | (simp [plainName, overriddenIn]; done) | decide +kernel)
theorem dIC_0 : Dc jdk_52_method_47_code 0 (.iload_n 2) 1 1 := ⟨by decide +kernel, rfl⟩
theorem dIC_1 : Dc jdk_52_method_47_code 1 (.iload_n 3) 1 2 := ⟨by decide +kernel, rfl⟩
theorem dIC_2 : Dc jdk_52_method_47_code 2 (.aload_n 0) 1 3 := ⟨by decide +kernel, rfl⟩
theorem dIC_3 : Dc jdk_52_method_47_code 3 (.invokestatic 96) 3 6 := ⟨by decide +kernel, rfl⟩
theorem pd_7 : parseMethodDescriptor "(II[B)V" = some ⟨[.int, .int, (.array .byte)], none⟩ := by decide +kernel
set_option maxRecDepth 65536 in
theorem wd112 {Z : State} {a0 : Array Value} (hw : ∀ d ∈ tables_1, d.before a0 Z = true) : (Jvm.Cond.methodLink "java/lang/StringUTF16" (96 : Nat) ({ cls := "java/lang/StringUTF16", name := "checkBoundsBeginEnd", desc := "(II[B)V" } : Jvm.MethodName)).before a0 Z = true := hw _ (List.mem_of_getElem? (i := 112) rfl)
set_option maxRecDepth 65536 in
theorem wd113 {Z : State} {a0 : Array Value} (hw : ∀ d ∈ tables_1, d.before a0 Z = true) : (Jvm.Cond.static ({ cls := "java/lang/StringUTF16", name := "checkBoundsBeginEnd", desc := "(II[B)V" } : Jvm.MethodName)).before a0 Z = true := hw _ (List.mem_of_getElem? (i := 113) rfl)
set_option maxRecDepth 65536 in
theorem wd114 {Z : State} {a0 : Array Value} (hw : ∀ d ∈ tables_1, d.before a0 Z = true) : (Jvm.Cond.code ({ cls := "java/lang/StringUTF16", name := "checkBoundsBeginEnd", desc := "(II[B)V" } : Jvm.MethodName) jdk_52_method_93_code (3 : Nat) (Option.none : Option Jvm.ClassFile.FieldType)).before a0 Z = true := hw _ (List.mem_of_getElem? (i := 114) rfl)
theorem dIC_6 : Dc jdk_52_method_47_code 6 (.aload_n 0) 1 7 := ⟨by decide +kernel, rfl⟩
theorem dIC_7 : Dc jdk_52_method_47_code 7 (.iload_n 1) 1 8 := ⟨by decide +kernel, rfl⟩
theorem dIC_8 : Dc jdk_52_method_47_code 8 (.iload_n 2) 1 9 := ⟨by decide +kernel, rfl⟩
theorem dIC_9 : Dc jdk_52_method_47_code 9 (.iload_n 3) 1 10 := ⟨by decide +kernel, rfl⟩
theorem dIC_10 : Dc jdk_52_method_47_code 10 (.invokestatic 244) 3 13 := ⟨by decide +kernel, rfl⟩
theorem pd_8 : parseMethodDescriptor "([BIII)I" = some ⟨[(.array .byte), .int, .int, .int], some .int⟩ := by decide +kernel
set_option maxRecDepth 65536 in
theorem wd126 {Z : State} {a0 : Array Value} (hw : ∀ d ∈ tables_1, d.before a0 Z = true) : (Jvm.Cond.methodLink "java/lang/StringUTF16" (244 : Nat) ({ cls := "java/lang/StringUTF16", name := "indexOfCharUnsafe", desc := "([BIII)I" } : Jvm.MethodName)).before a0 Z = true := hw _ (List.mem_of_getElem? (i := 126) rfl)
set_option maxRecDepth 65536 in
theorem wd127 {Z : State} {a0 : Array Value} (hw : ∀ d ∈ tables_1, d.before a0 Z = true) : (Jvm.Cond.static ({ cls := "java/lang/StringUTF16", name := "indexOfCharUnsafe", desc := "([BIII)I" } : Jvm.MethodName)).before a0 Z = true := hw _ (List.mem_of_getElem? (i := 127) rfl)
set_option maxRecDepth 65536 in
theorem wd128 {Z : State} {a0 : Array Value} (hw : ∀ d ∈ tables_1, d.before a0 Z = true) : (Jvm.Cond.code ({ cls := "java/lang/StringUTF16", name := "indexOfCharUnsafe", desc := "([BIII)I" } : Jvm.MethodName) jdk_52_method_48_code (5 : Nat) (Option.some Jvm.ClassFile.FieldType.int)).before a0 Z = true := hw _ (List.mem_of_getElem? (i := 128) rfl)
theorem dIC_13 : Dc jdk_52_method_47_code 13 .ireturn 1 14 := ⟨by decide +kernel, rfl⟩
theorem efIC (m : MethodId) (x0 : Addr) (x1 : Int32) (x2 : Int32) (x3 : Int32) : entryFrame m #[.ref x0, .int x1, .int x2, .int x3] 4 = mkF m 0 #[.val (.ref x0), .val (.int x1), .val (.int x2), .val (.int x3)] [] := by first | (simp [entryFrame, mkF, argsToLocals, Value.category]; done) | rfl
theorem pnIC : plainFor (⟨"java/lang/StringUTF16", "indexOfChar", "([BIII)I"⟩ : MethodName) = true := plainFor_of_name (by first | (simp [plainName, overriddenIn]; done) | decide +kernel)
theorem dIX_0 : Dc jdk_52_method_40_code 0 (.iload_n 2) 1 1 := ⟨by decide +kernel, rfl⟩
theorem dIX_1 : Dc jdk_52_method_40_code 1 (.iconst 0) 1 2 := ⟨by decide +kernel, rfl⟩
theorem dIX_2 : Dc jdk_52_method_40_code 2 (.invokestatic 224) 3 5 := ⟨by decide +kernel, rfl⟩
set_option maxRecDepth 65536 in
theorem wd103 {Z : State} {a0 : Array Value} (hw : ∀ d ∈ tables_1, d.before a0 Z = true) : (Jvm.Cond.initialized "java/lang/Math").before a0 Z = true := hw _ (List.mem_of_getElem? (i := 103) rfl)
theorem pd_9 : parseMethodDescriptor "(II)I" = some ⟨[.int, .int], some .int⟩ := by decide +kernel
set_option maxRecDepth 65536 in
theorem wd101 {Z : State} {a0 : Array Value} (hw : ∀ d ∈ tables_1, d.before a0 Z = true) : (Jvm.Cond.methodLink "java/lang/StringUTF16" (224 : Nat) ({ cls := "java/lang/Math", name := "max", desc := "(II)I" } : Jvm.MethodName)).before a0 Z = true := hw _ (List.mem_of_getElem? (i := 101) rfl)
set_option maxRecDepth 65536 in
theorem wd102 {Z : State} {a0 : Array Value} (hw : ∀ d ∈ tables_1, d.before a0 Z = true) : (Jvm.Cond.static ({ cls := "java/lang/Math", name := "max", desc := "(II)I" } : Jvm.MethodName)).before a0 Z = true := hw _ (List.mem_of_getElem? (i := 102) rfl)
set_option maxRecDepth 65536 in
theorem wd104 {Z : State} {a0 : Array Value} (hw : ∀ d ∈ tables_1, d.before a0 Z = true) : (Jvm.Cond.code ({ cls := "java/lang/Math", name := "max", desc := "(II)I" } : Jvm.MethodName) jdk_29_method_65_code (2 : Nat) (Option.some Jvm.ClassFile.FieldType.int)).before a0 Z = true := hw _ (List.mem_of_getElem? (i := 104) rfl)
theorem dIX_5 : Dc jdk_52_method_40_code 5 (.istore_n 2) 1 6 := ⟨by decide +kernel, rfl⟩
theorem dIX_6 : Dc jdk_52_method_40_code 6 (.iload_n 3) 1 7 := ⟨by decide +kernel, rfl⟩
theorem dIX_7 : Dc jdk_52_method_40_code 7 (.aload_n 0) 1 8 := ⟨by decide +kernel, rfl⟩
theorem dIX_8 : Dc jdk_52_method_40_code 8 .arraylength 1 9 := ⟨by decide +kernel, rfl⟩
theorem dIX_9 : Dc jdk_52_method_40_code 9 (.iconst 1) 1 10 := ⟨by decide +kernel, rfl⟩
theorem dIX_10 : Dc jdk_52_method_40_code 10 .ishr 1 11 := ⟨by decide +kernel, rfl⟩
theorem dIX_11 : Dc jdk_52_method_40_code 11 (.invokestatic 183) 3 14 := ⟨by decide +kernel, rfl⟩
set_option maxRecDepth 65536 in
theorem wd105 {Z : State} {a0 : Array Value} (hw : ∀ d ∈ tables_1, d.before a0 Z = true) : (Jvm.Cond.methodLink "java/lang/StringUTF16" (183 : Nat) ({ cls := "java/lang/Math", name := "min", desc := "(II)I" } : Jvm.MethodName)).before a0 Z = true := hw _ (List.mem_of_getElem? (i := 105) rfl)
set_option maxRecDepth 65536 in
theorem wd106 {Z : State} {a0 : Array Value} (hw : ∀ d ∈ tables_1, d.before a0 Z = true) : (Jvm.Cond.static ({ cls := "java/lang/Math", name := "min", desc := "(II)I" } : Jvm.MethodName)).before a0 Z = true := hw _ (List.mem_of_getElem? (i := 106) rfl)
set_option maxRecDepth 65536 in
theorem wd107 {Z : State} {a0 : Array Value} (hw : ∀ d ∈ tables_1, d.before a0 Z = true) : (Jvm.Cond.code ({ cls := "java/lang/Math", name := "min", desc := "(II)I" } : Jvm.MethodName) jdk_29_method_69_code (2 : Nat) (Option.some Jvm.ClassFile.FieldType.int)).before a0 Z = true := hw _ (List.mem_of_getElem? (i := 107) rfl)
theorem dIX_14 : Dc jdk_52_method_40_code 14 (.istore_n 3) 1 15 := ⟨by decide +kernel, rfl⟩
theorem dIX_15 : Dc jdk_52_method_40_code 15 (.iload_n 2) 1 16 := ⟨by decide +kernel, rfl⟩
theorem dIX_16 : Dc jdk_52_method_40_code 16 (.iload_n 3) 1 17 := ⟨by decide +kernel, rfl⟩
theorem dIX_17 : Db jdk_52_method_40_code 17 (.if_icmp .lt 5) 5 20 22 := ⟨by decide +kernel, rfl, by decide, by decide⟩
theorem dIX_22 : Dc jdk_52_method_40_code 22 (.iload_n 1) 1 23 := ⟨by decide +kernel, rfl⟩
theorem dIX_23 : Dc jdk_52_method_40_code 23 (.ldc 227) 2 25 := ⟨by decide +kernel, rfl⟩
set_option maxRecDepth 65536 in
theorem wd108 {Z : State} {a0 : Array Value} (hw : ∀ d ∈ tables_1, d.before a0 Z = true) : (Jvm.Cond.constant "java/lang/StringUTF16" (227 : Nat) (65536 : Int32)).before a0 Z = true := hw _ (List.mem_of_getElem? (i := 108) rfl)
theorem dIX_25 : Db jdk_52_method_40_code 25 (.if_icmp .ge 11) 11 28 36 := ⟨by decide +kernel, rfl, by decide, by decide⟩
theorem dIX_28 : Dc jdk_52_method_40_code 28 (.aload_n 0) 1 29 := ⟨by decide +kernel, rfl⟩
theorem dIX_29 : Dc jdk_52_method_40_code 29 (.iload_n 1) 1 30 := ⟨by decide +kernel, rfl⟩
theorem dIX_30 : Dc jdk_52_method_40_code 30 (.iload_n 2) 1 31 := ⟨by decide +kernel, rfl⟩
theorem dIX_31 : Dc jdk_52_method_40_code 31 (.iload_n 3) 1 32 := ⟨by decide +kernel, rfl⟩
theorem dIX_32 : Dc jdk_52_method_40_code 32 (.invokestatic 228) 3 35 := ⟨by decide +kernel, rfl⟩
set_option maxRecDepth 65536 in
theorem wd109 {Z : State} {a0 : Array Value} (hw : ∀ d ∈ tables_1, d.before a0 Z = true) : (Jvm.Cond.methodLink "java/lang/StringUTF16" (228 : Nat) ({ cls := "java/lang/StringUTF16", name := "indexOfChar", desc := "([BIII)I" } : Jvm.MethodName)).before a0 Z = true := hw _ (List.mem_of_getElem? (i := 109) rfl)
set_option maxRecDepth 65536 in
theorem wd110 {Z : State} {a0 : Array Value} (hw : ∀ d ∈ tables_1, d.before a0 Z = true) : (Jvm.Cond.static ({ cls := "java/lang/StringUTF16", name := "indexOfChar", desc := "([BIII)I" } : Jvm.MethodName)).before a0 Z = true := hw _ (List.mem_of_getElem? (i := 110) rfl)
set_option maxRecDepth 65536 in
theorem wd111 {Z : State} {a0 : Array Value} (hw : ∀ d ∈ tables_1, d.before a0 Z = true) : (Jvm.Cond.code ({ cls := "java/lang/StringUTF16", name := "indexOfChar", desc := "([BIII)I" } : Jvm.MethodName) jdk_52_method_47_code (4 : Nat) (Option.some Jvm.ClassFile.FieldType.int)).before a0 Z = true := hw _ (List.mem_of_getElem? (i := 111) rfl)
theorem dIX_35 : Dc jdk_52_method_40_code 35 .ireturn 1 36 := ⟨by decide +kernel, rfl⟩
theorem efIX (m : MethodId) (x0 : Addr) (x1 : Int32) (x2 : Int32) (x3 : Int32) : entryFrame m #[.ref x0, .int x1, .int x2, .int x3] 4 = mkF m 0 #[.val (.ref x0), .val (.int x1), .val (.int x2), .val (.int x3)] [] := by first | (simp [entryFrame, mkF, argsToLocals, Value.category]; done) | rfl
theorem pnIX : plainFor (⟨"java/lang/StringUTF16", "indexOf", "([BIII)I"⟩ : MethodName) = true := plainFor_of_name (by first | (simp [plainName, overriddenIn]; done) | decide +kernel)
theorem dI2_0 : Dc jdk_42_method_80_code 0 (.aload_n 0) 1 1 := ⟨by decide +kernel, rfl⟩
theorem dI2_1 : Dc jdk_42_method_80_code 1 (.invokevirtual 492) 3 4 := ⟨by decide +kernel, rfl⟩
theorem pd_10 : parseMethodDescriptor "()Z" = some ⟨[], some .boolean⟩ := by decide +kernel
set_option maxRecDepth 65536 in
theorem wd46 {Z : State} {a0 : Array Value} (hw : ∀ d ∈ tables_1, d.before a0 Z = true) : (Jvm.Cond.methodLink "java/lang/String" (492 : Nat) ({ cls := "java/lang/String", name := "isLatin1", desc := "()Z" } : Jvm.MethodName)).before a0 Z = true := hw _ (List.mem_of_getElem? (i := 46) rfl)
set_option maxRecDepth 65536 in
theorem wd47 {Z : State} {a0 : Array Value} (hw : ∀ d ∈ tables_1, d.before a0 Z = true) : (Jvm.Cond.declares ({ cls := "java/lang/String", name := "isLatin1", desc := "()Z" } : Jvm.MethodName)).before a0 Z = true := hw _ (List.mem_of_getElem? (i := 47) rfl)
set_option maxRecDepth 65536 in
theorem wd49 {Z : State} {a0 : Array Value} (hw : ∀ d ∈ tables_1, d.before a0 Z = true) : (Jvm.Cond.selects "java/lang/String" ({ cls := "java/lang/String", name := "isLatin1", desc := "()Z" } : Jvm.MethodName) ({ cls := "java/lang/String", name := "isLatin1", desc := "()Z" } : Jvm.MethodName)).before a0 Z = true := hw _ (List.mem_of_getElem? (i := 49) rfl)
set_option maxRecDepth 65536 in
theorem wd48 {Z : State} {a0 : Array Value} (hw : ∀ d ∈ tables_1, d.before a0 Z = true) : (Jvm.Cond.instanceMethod ({ cls := "java/lang/String", name := "isLatin1", desc := "()Z" } : Jvm.MethodName)).before a0 Z = true := hw _ (List.mem_of_getElem? (i := 48) rfl)
set_option maxRecDepth 65536 in
theorem wd50 {Z : State} {a0 : Array Value} (hw : ∀ d ∈ tables_1, d.before a0 Z = true) : (Jvm.Cond.code ({ cls := "java/lang/String", name := "isLatin1", desc := "()Z" } : Jvm.MethodName) jdk_42_method_154_code (1 : Nat) (Option.some Jvm.ClassFile.FieldType.boolean)).before a0 Z = true := hw _ (List.mem_of_getElem? (i := 50) rfl)
theorem dI2_4 : Db jdk_42_method_80_code 4 (.ifCond .eq 19) 19 7 23 := ⟨by decide +kernel, rfl, by decide, by decide⟩
theorem dI2_7 : Dc jdk_42_method_80_code 7 (.aload_n 0) 1 8 := ⟨by decide +kernel, rfl⟩
theorem dI2_8 : Dc jdk_42_method_80_code 8 (.getfield 9) 3 11 := ⟨by decide +kernel, rfl⟩
theorem dI2_11 : Dc jdk_42_method_80_code 11 (.iload_n 1) 1 12 := ⟨by decide +kernel, rfl⟩
theorem dI2_12 : Dc jdk_42_method_80_code 12 (.iload_n 2) 1 13 := ⟨by decide +kernel, rfl⟩
theorem dI2_13 : Dc jdk_42_method_80_code 13 (.aload_n 0) 1 14 := ⟨by decide +kernel, rfl⟩
theorem dI2_14 : Dc jdk_42_method_80_code 14 (.invokevirtual 505) 3 17 := ⟨by decide +kernel, rfl⟩
theorem pd_11 : parseMethodDescriptor "()I" = some ⟨[], some .int⟩ := by decide +kernel
set_option maxRecDepth 65536 in
theorem wd52 {Z : State} {a0 : Array Value} (hw : ∀ d ∈ tables_1, d.before a0 Z = true) : (Jvm.Cond.methodLink "java/lang/String" (505 : Nat) ({ cls := "java/lang/String", name := "length", desc := "()I" } : Jvm.MethodName)).before a0 Z = true := hw _ (List.mem_of_getElem? (i := 52) rfl)
set_option maxRecDepth 65536 in
theorem wd53 {Z : State} {a0 : Array Value} (hw : ∀ d ∈ tables_1, d.before a0 Z = true) : (Jvm.Cond.declares ({ cls := "java/lang/String", name := "length", desc := "()I" } : Jvm.MethodName)).before a0 Z = true := hw _ (List.mem_of_getElem? (i := 53) rfl)
set_option maxRecDepth 65536 in
theorem wd55 {Z : State} {a0 : Array Value} (hw : ∀ d ∈ tables_1, d.before a0 Z = true) : (Jvm.Cond.selects "java/lang/String" ({ cls := "java/lang/String", name := "length", desc := "()I" } : Jvm.MethodName) ({ cls := "java/lang/String", name := "length", desc := "()I" } : Jvm.MethodName)).before a0 Z = true := hw _ (List.mem_of_getElem? (i := 55) rfl)
set_option maxRecDepth 65536 in
theorem wd54 {Z : State} {a0 : Array Value} (hw : ∀ d ∈ tables_1, d.before a0 Z = true) : (Jvm.Cond.instanceMethod ({ cls := "java/lang/String", name := "length", desc := "()I" } : Jvm.MethodName)).before a0 Z = true := hw _ (List.mem_of_getElem? (i := 54) rfl)
set_option maxRecDepth 65536 in
theorem wd56 {Z : State} {a0 : Array Value} (hw : ∀ d ∈ tables_1, d.before a0 Z = true) : (Jvm.Cond.code ({ cls := "java/lang/String", name := "length", desc := "()I" } : Jvm.MethodName) jdk_42_method_54_code (1 : Nat) (Option.some Jvm.ClassFile.FieldType.int)).before a0 Z = true := hw _ (List.mem_of_getElem? (i := 56) rfl)
theorem dI2_17 : Dc jdk_42_method_80_code 17 (.invokestatic 637) 3 20 := ⟨by decide +kernel, rfl⟩
set_option maxRecDepth 65536 in
theorem wd62 {Z : State} {a0 : Array Value} (hw : ∀ d ∈ tables_1, d.before a0 Z = true) : (Jvm.Cond.methodLink "java/lang/String" (637 : Nat) ({ cls := "java/lang/StringLatin1", name := "indexOf", desc := "([BIII)I" } : Jvm.MethodName)).before a0 Z = true := hw _ (List.mem_of_getElem? (i := 62) rfl)
set_option maxRecDepth 65536 in
theorem wd63 {Z : State} {a0 : Array Value} (hw : ∀ d ∈ tables_1, d.before a0 Z = true) : (Jvm.Cond.static ({ cls := "java/lang/StringLatin1", name := "indexOf", desc := "([BIII)I" } : Jvm.MethodName)).before a0 Z = true := hw _ (List.mem_of_getElem? (i := 63) rfl)
set_option maxRecDepth 65536 in
theorem wd65 {Z : State} {a0 : Array Value} (hw : ∀ d ∈ tables_1, d.before a0 Z = true) : (Jvm.Cond.code ({ cls := "java/lang/StringLatin1", name := "indexOf", desc := "([BIII)I" } : Jvm.MethodName) jdk_43_method_22_code (4 : Nat) (Option.some Jvm.ClassFile.FieldType.int)).before a0 Z = true := hw _ (List.mem_of_getElem? (i := 65) rfl)
theorem dI2_20 : Db jdk_42_method_80_code 20 (.goto 16) 16 23 36 := ⟨by decide +kernel, rfl, by decide, by decide⟩
theorem dI2_36 : Dc jdk_42_method_80_code 36 .ireturn 1 37 := ⟨by decide +kernel, rfl⟩
theorem dI2_23 : Dc jdk_42_method_80_code 23 (.aload_n 0) 1 24 := ⟨by decide +kernel, rfl⟩
theorem dI2_24 : Dc jdk_42_method_80_code 24 (.getfield 9) 3 27 := ⟨by decide +kernel, rfl⟩
theorem dI2_27 : Dc jdk_42_method_80_code 27 (.iload_n 1) 1 28 := ⟨by decide +kernel, rfl⟩
theorem dI2_28 : Dc jdk_42_method_80_code 28 (.iload_n 2) 1 29 := ⟨by decide +kernel, rfl⟩
theorem dI2_29 : Dc jdk_42_method_80_code 29 (.aload_n 0) 1 30 := ⟨by decide +kernel, rfl⟩
theorem dI2_30 : Dc jdk_42_method_80_code 30 (.invokevirtual 505) 3 33 := ⟨by decide +kernel, rfl⟩
theorem dI2_33 : Dc jdk_42_method_80_code 33 (.invokestatic 640) 3 36 := ⟨by decide +kernel, rfl⟩
set_option maxRecDepth 65536 in
theorem wd98 {Z : State} {a0 : Array Value} (hw : ∀ d ∈ tables_1, d.before a0 Z = true) : (Jvm.Cond.methodLink "java/lang/String" (640 : Nat) ({ cls := "java/lang/StringUTF16", name := "indexOf", desc := "([BIII)I" } : Jvm.MethodName)).before a0 Z = true := hw _ (List.mem_of_getElem? (i := 98) rfl)
set_option maxRecDepth 65536 in
theorem wd99 {Z : State} {a0 : Array Value} (hw : ∀ d ∈ tables_1, d.before a0 Z = true) : (Jvm.Cond.static ({ cls := "java/lang/StringUTF16", name := "indexOf", desc := "([BIII)I" } : Jvm.MethodName)).before a0 Z = true := hw _ (List.mem_of_getElem? (i := 99) rfl)
set_option maxRecDepth 65536 in
theorem wd100 {Z : State} {a0 : Array Value} (hw : ∀ d ∈ tables_1, d.before a0 Z = true) : (Jvm.Cond.code ({ cls := "java/lang/StringUTF16", name := "indexOf", desc := "([BIII)I" } : Jvm.MethodName) jdk_52_method_40_code (4 : Nat) (Option.some Jvm.ClassFile.FieldType.int)).before a0 Z = true := hw _ (List.mem_of_getElem? (i := 100) rfl)
theorem efI2 (m : MethodId) (x0 : Addr) (x1 : Int32) (x2 : Int32) : entryFrame m #[.ref x0, .int x1, .int x2] 3 = mkF m 0 #[.val (.ref x0), .val (.int x1), .val (.int x2)] [] := by first | (simp [entryFrame, mkF, argsToLocals, Value.category]; done) | rfl
theorem pnI2 : plainFor (⟨"java/lang/String", "indexOf", "(II)I"⟩ : MethodName) = true := plainFor_of_name (by first | (simp [plainName, overriddenIn]; done) | decide +kernel)
theorem dI1_0 : Dc jdk_42_method_79_code 0 (.aload_n 0) 1 1 := ⟨by decide +kernel, rfl⟩
theorem dI1_1 : Dc jdk_42_method_79_code 1 (.iload_n 1) 1 2 := ⟨by decide +kernel, rfl⟩
theorem dI1_2 : Dc jdk_42_method_79_code 2 (.iconst 0) 1 3 := ⟨by decide +kernel, rfl⟩
theorem dI1_3 : Dc jdk_42_method_79_code 3 (.invokevirtual 633) 3 6 := ⟨by decide +kernel, rfl⟩
set_option maxRecDepth 65536 in
theorem wd41 {Z : State} {a0 : Array Value} (hw : ∀ d ∈ tables_1, d.before a0 Z = true) : (Jvm.Cond.methodLink "java/lang/String" (633 : Nat) ({ cls := "java/lang/String", name := "indexOf", desc := "(II)I" } : Jvm.MethodName)).before a0 Z = true := hw _ (List.mem_of_getElem? (i := 41) rfl)
set_option maxRecDepth 65536 in
theorem wd42 {Z : State} {a0 : Array Value} (hw : ∀ d ∈ tables_1, d.before a0 Z = true) : (Jvm.Cond.declares ({ cls := "java/lang/String", name := "indexOf", desc := "(II)I" } : Jvm.MethodName)).before a0 Z = true := hw _ (List.mem_of_getElem? (i := 42) rfl)
set_option maxRecDepth 65536 in
theorem wd44 {Z : State} {a0 : Array Value} (hw : ∀ d ∈ tables_1, d.before a0 Z = true) : (Jvm.Cond.selects "java/lang/String" ({ cls := "java/lang/String", name := "indexOf", desc := "(II)I" } : Jvm.MethodName) ({ cls := "java/lang/String", name := "indexOf", desc := "(II)I" } : Jvm.MethodName)).before a0 Z = true := hw _ (List.mem_of_getElem? (i := 44) rfl)
set_option maxRecDepth 65536 in
theorem wd43 {Z : State} {a0 : Array Value} (hw : ∀ d ∈ tables_1, d.before a0 Z = true) : (Jvm.Cond.instanceMethod ({ cls := "java/lang/String", name := "indexOf", desc := "(II)I" } : Jvm.MethodName)).before a0 Z = true := hw _ (List.mem_of_getElem? (i := 43) rfl)
set_option maxRecDepth 65536 in
theorem wd45 {Z : State} {a0 : Array Value} (hw : ∀ d ∈ tables_1, d.before a0 Z = true) : (Jvm.Cond.code ({ cls := "java/lang/String", name := "indexOf", desc := "(II)I" } : Jvm.MethodName) jdk_42_method_80_code (3 : Nat) (Option.some Jvm.ClassFile.FieldType.int)).before a0 Z = true := hw _ (List.mem_of_getElem? (i := 45) rfl)
theorem dI1_6 : Dc jdk_42_method_79_code 6 .ireturn 1 7 := ⟨by decide +kernel, rfl⟩
theorem efI1 (m : MethodId) (x0 : Addr) (x1 : Int32) : entryFrame m #[.ref x0, .int x1] 2 = mkF m 0 #[.val (.ref x0), .val (.int x1)] [] := by first | (simp [entryFrame, mkF, argsToLocals, Value.category]; done) | rfl
theorem pnI1 : plainFor (⟨"java/lang/String", "indexOf", "(I)I"⟩ : MethodName) = true := plainFor_of_name (by first | (simp [plainName, overriddenIn]; done) | decide +kernel)
theorem dIS_0 : Dc prog_23_method_3_code 0 (.aload_n 0) 1 1 := ⟨by decide +kernel, rfl⟩
theorem dIS_1 : Dc prog_23_method_3_code 1 (.ldc 69) 2 3 := ⟨by decide +kernel, rfl⟩
set_option maxRecDepth 65536 in
theorem wd35 {Z : State} {a0 : Array Value} (hw : ∀ d ∈ tables_1, d.before a0 Z = true) : (Jvm.Cond.constant "com/example/vestwright/vestwright/InputFiles" (69 : Nat) (65533 : Int32)).before a0 Z = true := hw _ (List.mem_of_getElem? (i := 35) rfl)
theorem dIS_3 : Dc prog_23_method_3_code 3 (.invokevirtual 70) 3 6 := ⟨by decide +kernel, rfl⟩
theorem pd_12 : parseMethodDescriptor "(I)I" = some ⟨[.int], some .int⟩ := by decide +kernel
set_option maxRecDepth 65536 in
theorem wd36 {Z : State} {a0 : Array Value} (hw : ∀ d ∈ tables_1, d.before a0 Z = true) : (Jvm.Cond.methodLink "com/example/vestwright/vestwright/InputFiles" (70 : Nat) ({ cls := "java/lang/String", name := "indexOf", desc := "(I)I" } : Jvm.MethodName)).before a0 Z = true := hw _ (List.mem_of_getElem? (i := 36) rfl)
set_option maxRecDepth 65536 in
theorem wd37 {Z : State} {a0 : Array Value} (hw : ∀ d ∈ tables_1, d.before a0 Z = true) : (Jvm.Cond.declares ({ cls := "java/lang/String", name := "indexOf", desc := "(I)I" } : Jvm.MethodName)).before a0 Z = true := hw _ (List.mem_of_getElem? (i := 37) rfl)
set_option maxRecDepth 65536 in
theorem wd39 {Z : State} {a0 : Array Value} (hw : ∀ d ∈ tables_1, d.before a0 Z = true) : (Jvm.Cond.selects "java/lang/String" ({ cls := "java/lang/String", name := "indexOf", desc := "(I)I" } : Jvm.MethodName) ({ cls := "java/lang/String", name := "indexOf", desc := "(I)I" } : Jvm.MethodName)).before a0 Z = true := hw _ (List.mem_of_getElem? (i := 39) rfl)
set_option maxRecDepth 65536 in
theorem wd38 {Z : State} {a0 : Array Value} (hw : ∀ d ∈ tables_1, d.before a0 Z = true) : (Jvm.Cond.instanceMethod ({ cls := "java/lang/String", name := "indexOf", desc := "(I)I" } : Jvm.MethodName)).before a0 Z = true := hw _ (List.mem_of_getElem? (i := 38) rfl)
set_option maxRecDepth 65536 in
theorem wd40 {Z : State} {a0 : Array Value} (hw : ∀ d ∈ tables_1, d.before a0 Z = true) : (Jvm.Cond.code ({ cls := "java/lang/String", name := "indexOf", desc := "(I)I" } : Jvm.MethodName) jdk_42_method_79_code (2 : Nat) (Option.some Jvm.ClassFile.FieldType.int)).before a0 Z = true := hw _ (List.mem_of_getElem? (i := 40) rfl)
theorem dIS_6 : Db prog_23_method_3_code 6 (.ifCond .ge 7) 7 9 13 := ⟨by decide +kernel, rfl, by decide, by decide⟩
theorem dIS_9 : Dc prog_23_method_3_code 9 (.iconst 1) 1 10 := ⟨by decide +kernel, rfl⟩
theorem dIS_10 : Db prog_23_method_3_code 10 (.goto 4) 4 13 14 := ⟨by decide +kernel, rfl, by decide, by decide⟩
theorem dIS_14 : Dc prog_23_method_3_code 14 .ireturn 1 15 := ⟨by decide +kernel, rfl⟩
theorem dIS_13 : Dc prog_23_method_3_code 13 (.iconst 0) 1 14 := ⟨by decide +kernel, rfl⟩
theorem efIS (m : MethodId) (x0 : Addr) : entryFrame m #[.ref x0] 1 = mkF m 0 #[.val (.ref x0)] [] := by first | (simp [entryFrame, mkF, argsToLocals, Value.category]; done) | rfl
theorem pnIS : plainFor (⟨"com/example/vestwright/vestwright/InputFiles", "isUtf8", "(Ljava/lang/String;)Z"⟩ : MethodName) = true := plainFor_of_name (by first | (simp [plainName, overriddenIn]; done) | decide +kernel)
theorem dCA_0 : Dc jdk_52_method_15_code 0 (.iload_n 1) 1 1 := ⟨by decide +kernel, rfl⟩
theorem dCA_1 : Dc jdk_52_method_15_code 1 (.aload_n 0) 1 2 := ⟨by decide +kernel, rfl⟩
theorem dCA_2 : Dc jdk_52_method_15_code 2 .arraylength 1 3 := ⟨by decide +kernel, rfl⟩
theorem dCA_3 : Dc jdk_52_method_15_code 3 .isub 1 4 := ⟨by decide +kernel, rfl⟩
theorem dCA_4 : Dc jdk_52_method_15_code 4 (.bipush 31) 2 6 := ⟨by decide +kernel, rfl⟩
theorem dCA_6 : Dc jdk_52_method_15_code 6 .iushr 1 7 := ⟨by decide +kernel, rfl⟩
theorem dCA_7 : Dc jdk_52_method_15_code 7 .i2b 1 8 := ⟨by decide +kernel, rfl⟩
theorem dCA_8 : Dc jdk_52_method_15_code 8 .ireturn 1 9 := ⟨by decide +kernel, rfl⟩
theorem efCA (m : MethodId) (x0 : Addr) (x1 : Int32) : entryFrame m #[.ref x0, .int x1] 2 = mkF m 0 #[.val (.ref x0), .val (.int x1)] [] := by first | (simp [entryFrame, mkF, argsToLocals, Value.category]; done) | rfl
theorem pnCA : plainFor (⟨"java/lang/StringUTF16", "coderFromArrayLen", "([BI)B"⟩ : MethodName) = true := plainFor_of_name (by first | (simp [plainName, overriddenIn]; done) | decide +kernel)
theorem dNL_0 : Dc jdk_52_method_3_code 0 (.iload_n 0) 1 1 := ⟨by decide +kernel, rfl⟩
theorem dNL_1 : Db jdk_52_method_3_code 1 (.ifCond .ge 11) 11 4 12 := ⟨by decide +kernel, rfl, by decide, by decide⟩
theorem dNL_12 : Dc jdk_52_method_3_code 12 (.iload_n 0) 1 13 := ⟨by decide +kernel, rfl⟩
theorem dNL_13 : Dc jdk_52_method_3_code 13 (.ldc 20) 2 15 := ⟨by decide +kernel, rfl⟩
set_option maxRecDepth 65536 in
theorem wd85 {Z : State} {a0 : Array Value} (hw : ∀ d ∈ tables_1, d.before a0 Z = true) : (Jvm.Cond.constant "java/lang/StringUTF16" (20 : Nat) (1073741823 : Int32)).before a0 Z = true := hw _ (List.mem_of_getElem? (i := 85) rfl)
theorem dNL_15 : Db jdk_52_method_3_code 15 (.if_icmp .lt 40) 40 18 55 := ⟨by decide +kernel, rfl, by decide, by decide⟩
theorem dNL_55 : Dc jdk_52_method_3_code 55 (.iload_n 0) 1 56 := ⟨by decide +kernel, rfl⟩
theorem dNL_56 : Dc jdk_52_method_3_code 56 (.iconst 1) 1 57 := ⟨by decide +kernel, rfl⟩
theorem dNL_57 : Dc jdk_52_method_3_code 57 .ishl 1 58 := ⟨by decide +kernel, rfl⟩
theorem dNL_58 : Dc jdk_52_method_3_code 58 .ireturn 1 59 := ⟨by decide +kernel, rfl⟩
theorem efNL (m : MethodId) (x0 : Int32) : entryFrame m #[.int x0] 1 = mkF m 0 #[.val (.int x0)] [] := by first | (simp [entryFrame, mkF, argsToLocals, Value.category]; done) | rfl
theorem pnNL : plainFor (⟨"java/lang/StringUTF16", "newBytesLength", "(I)I"⟩ : MethodName) = true := plainFor_of_name (by first | (simp [plainName, overriddenIn]; done) | decide +kernel)
theorem dNF_0 : Dc jdk_52_method_2_code 0 (.iload_n 0) 1 1 := ⟨by decide +kernel, rfl⟩
theorem dNF_1 : Dc jdk_52_method_2_code 1 (.invokestatic 11) 3 4 := ⟨by decide +kernel, rfl⟩
set_option maxRecDepth 65536 in
theorem wd82 {Z : State} {a0 : Array Value} (hw : ∀ d ∈ tables_1, d.before a0 Z = true) : (Jvm.Cond.methodLink "java/lang/StringUTF16" (11 : Nat) ({ cls := "java/lang/StringUTF16", name := "newBytesLength", desc := "(I)I" } : Jvm.MethodName)).before a0 Z = true := hw _ (List.mem_of_getElem? (i := 82) rfl)
set_option maxRecDepth 65536 in
theorem wd83 {Z : State} {a0 : Array Value} (hw : ∀ d ∈ tables_1, d.before a0 Z = true) : (Jvm.Cond.static ({ cls := "java/lang/StringUTF16", name := "newBytesLength", desc := "(I)I" } : Jvm.MethodName)).before a0 Z = true := hw _ (List.mem_of_getElem? (i := 83) rfl)
set_option maxRecDepth 65536 in
theorem wd84 {Z : State} {a0 : Array Value} (hw : ∀ d ∈ tables_1, d.before a0 Z = true) : (Jvm.Cond.code ({ cls := "java/lang/StringUTF16", name := "newBytesLength", desc := "(I)I" } : Jvm.MethodName) jdk_52_method_3_code (1 : Nat) (Option.some Jvm.ClassFile.FieldType.int)).before a0 Z = true := hw _ (List.mem_of_getElem? (i := 84) rfl)
theorem dNF_4 : Dc jdk_52_method_2_code 4 (.newarray .byte) 2 6 := ⟨by decide +kernel, rfl⟩
set_option maxRecDepth 65536 in
theorem wd24 {Z : State} {a0 : Array Value} (hw : ∀ d ∈ tables_1, d.before a0 Z = true) : (Jvm.Cond.arrayClass Jvm.ClassFile.FieldType.byte).before a0 Z = true := hw _ (List.mem_of_getElem? (i := 24) rfl)
theorem dNF_6 : Dc jdk_52_method_2_code 6 .areturn 1 7 := ⟨by decide +kernel, rfl⟩
theorem efNF (m : MethodId) (x0 : Int32) : entryFrame m #[.int x0] 1 = mkF m 0 #[.val (.int x0)] [] := by first | (simp [entryFrame, mkF, argsToLocals, Value.category]; done) | rfl
theorem pnNF : plainFor (⟨"java/lang/StringUTF16", "newBytesFor", "(I)[B"⟩ : MethodName) = true := plainFor_of_name (by first | (simp [plainName, overriddenIn]; done) | decide +kernel)
theorem dPC_0 : Dc jdk_52_method_4_code 0 (.getstatic 44) 3 3 := ⟨by decide +kernel, rfl⟩
theorem dPC_3 : Db jdk_52_method_4_code 3 (.ifCond .ne 25) 25 6 28 := ⟨by decide +kernel, rfl, by decide, by decide⟩
theorem dPC_28 : Dc jdk_52_method_4_code 28 (.iload_n 1) 1 29 := ⟨by decide +kernel, rfl⟩
theorem dPC_29 : Dc jdk_52_method_4_code 29 (.iconst 1) 1 30 := ⟨by decide +kernel, rfl⟩
theorem dPC_30 : Dc jdk_52_method_4_code 30 .ishl 1 31 := ⟨by decide +kernel, rfl⟩
theorem dPC_31 : Dc jdk_52_method_4_code 31 (.istore_n 1) 1 32 := ⟨by decide +kernel, rfl⟩
theorem dPC_32 : Dc jdk_52_method_4_code 32 (.aload_n 0) 1 33 := ⟨by decide +kernel, rfl⟩
theorem dPC_33 : Dc jdk_52_method_4_code 33 (.iload_n 1) 1 34 := ⟨by decide +kernel, rfl⟩
theorem dPC_34 : Dc jdk_52_method_4_code 34 (.iinc 1 1) 3 37 := ⟨by decide +kernel, rfl⟩
theorem dPC_37 : Dc jdk_52_method_4_code 37 (.iload_n 2) 1 38 := ⟨by decide +kernel, rfl⟩
theorem dPC_38 : Dc jdk_52_method_4_code 38 (.getstatic 59) 3 41 := ⟨by decide +kernel, rfl⟩
theorem dPC_41 : Dc jdk_52_method_4_code 41 .ishr 1 42 := ⟨by decide +kernel, rfl⟩
theorem dPC_42 : Dc jdk_52_method_4_code 42 .i2b 1 43 := ⟨by decide +kernel, rfl⟩
theorem dPC_43 : Dc jdk_52_method_4_code 43 .bastore 1 44 := ⟨by decide +kernel, rfl⟩
theorem dPC_44 : Dc jdk_52_method_4_code 44 (.aload_n 0) 1 45 := ⟨by decide +kernel, rfl⟩
theorem dPC_45 : Dc jdk_52_method_4_code 45 (.iload_n 1) 1 46 := ⟨by decide +kernel, rfl⟩
theorem dPC_46 : Dc jdk_52_method_4_code 46 (.iload_n 2) 1 47 := ⟨by decide +kernel, rfl⟩
theorem dPC_47 : Dc jdk_52_method_4_code 47 (.getstatic 63) 3 50 := ⟨by decide +kernel, rfl⟩
theorem dPC_50 : Dc jdk_52_method_4_code 50 .ishr 1 51 := ⟨by decide +kernel, rfl⟩
theorem dPC_51 : Dc jdk_52_method_4_code 51 .i2b 1 52 := ⟨by decide +kernel, rfl⟩
theorem dPC_52 : Dc jdk_52_method_4_code 52 .bastore 1 53 := ⟨by decide +kernel, rfl⟩
theorem dPC_53 : Dc jdk_52_method_4_code 53 .return_ 1 54 := ⟨by decide +kernel, rfl⟩
theorem efPC (m : MethodId) (x0 : Addr) (x1 : Int32) (x2 : Int32) : entryFrame m #[.ref x0, .int x1, .int x2] 3 = mkF m 0 #[.val (.ref x0), .val (.int x1), .val (.int x2)] [] := by first | (simp [entryFrame, mkF, argsToLocals, Value.category]; done) | rfl
theorem pnPC : plainFor (⟨"java/lang/StringUTF16", "putChar", "([BII)V"⟩ : MethodName) = true := plainFor_of_name (by first | (simp [plainName, overriddenIn]; done) | decide +kernel)
theorem dTB_0 : Dc jdk_52_method_14_code 0 (.iload_n 2) 1 1 := ⟨by decide +kernel, rfl⟩
theorem dTB_1 : Dc jdk_52_method_14_code 1 (.invokestatic 107) 3 4 := ⟨by decide +kernel, rfl⟩
theorem pd_13 : parseMethodDescriptor "(I)[B" = some ⟨[.int], some (.array .byte)⟩ := by decide +kernel
set_option maxRecDepth 65536 in
theorem wd79 {Z : State} {a0 : Array Value} (hw : ∀ d ∈ tables_1, d.before a0 Z = true) : (Jvm.Cond.methodLink "java/lang/StringUTF16" (107 : Nat) ({ cls := "java/lang/StringUTF16", name := "newBytesFor", desc := "(I)[B" } : Jvm.MethodName)).before a0 Z = true := hw _ (List.mem_of_getElem? (i := 79) rfl)
set_option maxRecDepth 65536 in
theorem wd80 {Z : State} {a0 : Array Value} (hw : ∀ d ∈ tables_1, d.before a0 Z = true) : (Jvm.Cond.static ({ cls := "java/lang/StringUTF16", name := "newBytesFor", desc := "(I)[B" } : Jvm.MethodName)).before a0 Z = true := hw _ (List.mem_of_getElem? (i := 80) rfl)
set_option maxRecDepth 65536 in
theorem wd81 {Z : State} {a0 : Array Value} (hw : ∀ d ∈ tables_1, d.before a0 Z = true) : (Jvm.Cond.code ({ cls := "java/lang/StringUTF16", name := "newBytesFor", desc := "(I)[B" } : Jvm.MethodName) jdk_52_method_2_code (1 : Nat) (Option.some (Jvm.ClassFile.FieldType.array Jvm.ClassFile.FieldType.byte))).before a0 Z = true := hw _ (List.mem_of_getElem? (i := 81) rfl)
theorem dTB_4 : Dc jdk_52_method_14_code 4 (.astore_n 3) 1 5 := ⟨by decide +kernel, rfl⟩
theorem dTB_5 : Dc jdk_52_method_14_code 5 (.iconst 0) 1 6 := ⟨by decide +kernel, rfl⟩
theorem dTB_6 : Dc jdk_52_method_14_code 6 (.istore 4) 2 8 := ⟨by decide +kernel, rfl⟩
theorem dTB_8 : Dc jdk_52_method_14_code 8 (.iload 4) 2 10 := ⟨by decide +kernel, rfl⟩
theorem dTB_10 : Dc jdk_52_method_14_code 10 (.iload_n 2) 1 11 := ⟨by decide +kernel, rfl⟩
theorem dTB_11 : Db jdk_52_method_14_code 11 (.if_icmp .ge 21) 21 14 32 := ⟨by decide +kernel, rfl, by decide, by decide⟩
theorem dTB_32 : Dc jdk_52_method_14_code 32 (.aload_n 3) 1 33 := ⟨by decide +kernel, rfl⟩
theorem dTB_33 : Dc jdk_52_method_14_code 33 .areturn 1 34 := ⟨by decide +kernel, rfl⟩
theorem dTB_14 : Dc jdk_52_method_14_code 14 (.aload_n 3) 1 15 := ⟨by decide +kernel, rfl⟩
theorem dTB_15 : Dc jdk_52_method_14_code 15 (.iload 4) 2 17 := ⟨by decide +kernel, rfl⟩
theorem dTB_17 : Dc jdk_52_method_14_code 17 (.aload_n 0) 1 18 := ⟨by decide +kernel, rfl⟩
theorem dTB_18 : Dc jdk_52_method_14_code 18 (.iload_n 1) 1 19 := ⟨by decide +kernel, rfl⟩
theorem dTB_19 : Dc jdk_52_method_14_code 19 .caload 1 20 := ⟨by decide +kernel, rfl⟩
theorem dTB_20 : Dc jdk_52_method_14_code 20 (.invokestatic 111) 3 23 := ⟨by decide +kernel, rfl⟩
theorem pd_14 : parseMethodDescriptor "([BII)V" = some ⟨[(.array .byte), .int, .int], none⟩ := by decide +kernel
set_option maxRecDepth 65536 in
theorem wd86 {Z : State} {a0 : Array Value} (hw : ∀ d ∈ tables_1, d.before a0 Z = true) : (Jvm.Cond.methodLink "java/lang/StringUTF16" (111 : Nat) ({ cls := "java/lang/StringUTF16", name := "putChar", desc := "([BII)V" } : Jvm.MethodName)).before a0 Z = true := hw _ (List.mem_of_getElem? (i := 86) rfl)
set_option maxRecDepth 65536 in
theorem wd87 {Z : State} {a0 : Array Value} (hw : ∀ d ∈ tables_1, d.before a0 Z = true) : (Jvm.Cond.static ({ cls := "java/lang/StringUTF16", name := "putChar", desc := "([BII)V" } : Jvm.MethodName)).before a0 Z = true := hw _ (List.mem_of_getElem? (i := 87) rfl)
set_option maxRecDepth 65536 in
theorem wd88 {Z : State} {a0 : Array Value} (hw : ∀ d ∈ tables_1, d.before a0 Z = true) : (Jvm.Cond.code ({ cls := "java/lang/StringUTF16", name := "putChar", desc := "([BII)V" } : Jvm.MethodName) jdk_52_method_4_code (3 : Nat) (Option.none : Option Jvm.ClassFile.FieldType)).before a0 Z = true := hw _ (List.mem_of_getElem? (i := 88) rfl)
theorem dTB_23 : Dc jdk_52_method_14_code 23 (.iinc 1 1) 3 26 := ⟨by decide +kernel, rfl⟩
theorem dTB_26 : Dc jdk_52_method_14_code 26 (.iinc 4 1) 3 29 := ⟨by decide +kernel, rfl⟩
theorem dTB_29 : Db jdk_52_method_14_code 29 (.goto (-21)) (-21) 32 8 := ⟨by decide +kernel, rfl, by decide, by decide⟩
theorem efTB (m : MethodId) (x0 : Addr) (x1 : Int32) (x2 : Int32) : entryFrame m #[.ref x0, .int x1, .int x2] 5 = mkF m 0 #[.val (.ref x0), .val (.int x1), .val (.int x2), .unset, .unset] [] := by first | (simp [entryFrame, mkF, argsToLocals, Value.category]; done) | rfl
theorem pnTB : plainFor (⟨"java/lang/StringUTF16", "toBytes", "([CII)[B"⟩ : MethodName) = true := plainFor_of_name (by first | (simp [plainName, overriddenIn]; done) | decide +kernel)
theorem dC5_0 : Dc jdk_52_method_21_code 0 (.iconst 0) 1 1 := ⟨by decide +kernel, rfl⟩
theorem dC5_1 : Dc jdk_52_method_21_code 1 (.istore 5) 2 3 := ⟨by decide +kernel, rfl⟩
theorem dC5_3 : Dc jdk_52_method_21_code 3 (.iload 5) 2 5 := ⟨by decide +kernel, rfl⟩
theorem dC5_5 : Dc jdk_52_method_21_code 5 (.iload 4) 2 7 := ⟨by decide +kernel, rfl⟩
theorem dC5_7 : Db jdk_52_method_21_code 7 (.if_icmp .ge 37) 37 10 44 := ⟨by decide +kernel, rfl, by decide, by decide⟩
theorem dC5_44 : Dc jdk_52_method_21_code 44 (.iload 4) 2 46 := ⟨by decide +kernel, rfl⟩
theorem dC5_46 : Dc jdk_52_method_21_code 46 .ireturn 1 47 := ⟨by decide +kernel, rfl⟩
theorem dC5_10 : Dc jdk_52_method_21_code 10 (.aload_n 0) 1 11 := ⟨by decide +kernel, rfl⟩
theorem dC5_11 : Dc jdk_52_method_21_code 11 (.iload_n 1) 1 12 := ⟨by decide +kernel, rfl⟩
theorem dC5_12 : Dc jdk_52_method_21_code 12 .caload 1 13 := ⟨by decide +kernel, rfl⟩
theorem dC5_13 : Dc jdk_52_method_21_code 13 (.istore 6) 2 15 := ⟨by decide +kernel, rfl⟩
theorem dC5_15 : Dc jdk_52_method_21_code 15 (.iload 6) 2 17 := ⟨by decide +kernel, rfl⟩
theorem dC5_17 : Dc jdk_52_method_21_code 17 (.sipush 255) 3 20 := ⟨by decide +kernel, rfl⟩
theorem dC5_20 : Db jdk_52_method_21_code 20 (.if_icmp .le 6) 6 23 26 := ⟨by decide +kernel, rfl, by decide, by decide⟩
theorem dC5_23 : Dc jdk_52_method_21_code 23 (.iload 5) 2 25 := ⟨by decide +kernel, rfl⟩
theorem dC5_25 : Dc jdk_52_method_21_code 25 .ireturn 1 26 := ⟨by decide +kernel, rfl⟩
theorem dC5_26 : Dc jdk_52_method_21_code 26 (.aload_n 2) 1 27 := ⟨by decide +kernel, rfl⟩
theorem dC5_27 : Dc jdk_52_method_21_code 27 (.iload_n 3) 1 28 := ⟨by decide +kernel, rfl⟩
theorem dC5_28 : Dc jdk_52_method_21_code 28 (.iload 6) 2 30 := ⟨by decide +kernel, rfl⟩
theorem dC5_30 : Dc jdk_52_method_21_code 30 .i2b 1 31 := ⟨by decide +kernel, rfl⟩
theorem dC5_31 : Dc jdk_52_method_21_code 31 .bastore 1 32 := ⟨by decide +kernel, rfl⟩
theorem dC5_32 : Dc jdk_52_method_21_code 32 (.iinc 1 1) 3 35 := ⟨by decide +kernel, rfl⟩
theorem dC5_35 : Dc jdk_52_method_21_code 35 (.iinc 3 1) 3 38 := ⟨by decide +kernel, rfl⟩
theorem dC5_38 : Dc jdk_52_method_21_code 38 (.iinc 5 1) 3 41 := ⟨by decide +kernel, rfl⟩
theorem dC5_41 : Db jdk_52_method_21_code 41 (.goto (-38)) (-38) 44 3 := ⟨by decide +kernel, rfl, by decide, by decide⟩
theorem efC5 (m : MethodId) (x0 : Addr) (x1 : Int32) (x2 : Addr) (x3 : Int32) (x4 : Int32) : entryFrame m #[.ref x0, .int x1, .ref x2, .int x3, .int x4] 7 = mkF m 0 #[.val (.ref x0), .val (.int x1), .val (.ref x2), .val (.int x3), .val (.int x4), .unset, .unset] [] := by first | (simp [entryFrame, mkF, argsToLocals, Value.category]; done) | rfl
theorem pnC5 : plainFor (⟨"java/lang/StringUTF16", "compress", "([CI[BII)I"⟩ : MethodName) = true := plainFor_of_name (by first | (simp [plainName, overriddenIn]; done) | decide +kernel)
theorem dC3_0 : Dc jdk_52_method_16_code 0 (.iload_n 2) 1 1 := ⟨by decide +kernel, rfl⟩
theorem dC3_1 : Dc jdk_52_method_16_code 1 (.newarray .byte) 2 3 := ⟨by decide +kernel, rfl⟩
theorem dC3_3 : Dc jdk_52_method_16_code 3 (.astore_n 3) 1 4 := ⟨by decide +kernel, rfl⟩
theorem dC3_4 : Dc jdk_52_method_16_code 4 (.aload_n 0) 1 5 := ⟨by decide +kernel, rfl⟩
theorem dC3_5 : Dc jdk_52_method_16_code 5 (.iload_n 1) 1 6 := ⟨by decide +kernel, rfl⟩
theorem dC3_6 : Dc jdk_52_method_16_code 6 (.aload_n 3) 1 7 := ⟨by decide +kernel, rfl⟩
theorem dC3_7 : Dc jdk_52_method_16_code 7 (.iconst 0) 1 8 := ⟨by decide +kernel, rfl⟩
theorem dC3_8 : Dc jdk_52_method_16_code 8 (.iload_n 2) 1 9 := ⟨by decide +kernel, rfl⟩
theorem dC3_9 : Dc jdk_52_method_16_code 9 (.invokestatic 115) 3 12 := ⟨by decide +kernel, rfl⟩
theorem pd_15 : parseMethodDescriptor "([CI[BII)I" = some ⟨[(.array .char), .int, (.array .byte), .int, .int], some .int⟩ := by decide +kernel
set_option maxRecDepth 65536 in
theorem wd73 {Z : State} {a0 : Array Value} (hw : ∀ d ∈ tables_1, d.before a0 Z = true) : (Jvm.Cond.methodLink "java/lang/StringUTF16" (115 : Nat) ({ cls := "java/lang/StringUTF16", name := "compress", desc := "([CI[BII)I" } : Jvm.MethodName)).before a0 Z = true := hw _ (List.mem_of_getElem? (i := 73) rfl)
set_option maxRecDepth 65536 in
theorem wd74 {Z : State} {a0 : Array Value} (hw : ∀ d ∈ tables_1, d.before a0 Z = true) : (Jvm.Cond.static ({ cls := "java/lang/StringUTF16", name := "compress", desc := "([CI[BII)I" } : Jvm.MethodName)).before a0 Z = true := hw _ (List.mem_of_getElem? (i := 74) rfl)
set_option maxRecDepth 65536 in
theorem wd75 {Z : State} {a0 : Array Value} (hw : ∀ d ∈ tables_1, d.before a0 Z = true) : (Jvm.Cond.code ({ cls := "java/lang/StringUTF16", name := "compress", desc := "([CI[BII)I" } : Jvm.MethodName) jdk_52_method_21_code (7 : Nat) (Option.some Jvm.ClassFile.FieldType.int)).before a0 Z = true := hw _ (List.mem_of_getElem? (i := 75) rfl)
theorem dC3_12 : Dc jdk_52_method_16_code 12 (.istore 4) 2 14 := ⟨by decide +kernel, rfl⟩
theorem dC3_14 : Dc jdk_52_method_16_code 14 (.iload 4) 2 16 := ⟨by decide +kernel, rfl⟩
theorem dC3_16 : Dc jdk_52_method_16_code 16 (.iload_n 2) 1 17 := ⟨by decide +kernel, rfl⟩
theorem dC3_17 : Db jdk_52_method_16_code 17 (.if_icmp .eq 40) 40 20 57 := ⟨by decide +kernel, rfl, by decide, by decide⟩
theorem dC3_57 : Dc jdk_52_method_16_code 57 (.aload_n 3) 1 58 := ⟨by decide +kernel, rfl⟩
theorem dC3_58 : Dc jdk_52_method_16_code 58 .areturn 1 59 := ⟨by decide +kernel, rfl⟩
theorem dC3_20 : Dc jdk_52_method_16_code 20 (.aload_n 0) 1 21 := ⟨by decide +kernel, rfl⟩
theorem dC3_21 : Dc jdk_52_method_16_code 21 (.iload_n 1) 1 22 := ⟨by decide +kernel, rfl⟩
theorem dC3_22 : Dc jdk_52_method_16_code 22 (.iload_n 2) 1 23 := ⟨by decide +kernel, rfl⟩
theorem dC3_23 : Dc jdk_52_method_16_code 23 (.invokestatic 119) 3 26 := ⟨by decide +kernel, rfl⟩
theorem pd_16 : parseMethodDescriptor "([CII)[B" = some ⟨[(.array .char), .int, .int], some (.array .byte)⟩ := by decide +kernel
set_option maxRecDepth 65536 in
theorem wd76 {Z : State} {a0 : Array Value} (hw : ∀ d ∈ tables_1, d.before a0 Z = true) : (Jvm.Cond.methodLink "java/lang/StringUTF16" (119 : Nat) ({ cls := "java/lang/StringUTF16", name := "toBytes", desc := "([CII)[B" } : Jvm.MethodName)).before a0 Z = true := hw _ (List.mem_of_getElem? (i := 76) rfl)
set_option maxRecDepth 65536 in
theorem wd77 {Z : State} {a0 : Array Value} (hw : ∀ d ∈ tables_1, d.before a0 Z = true) : (Jvm.Cond.static ({ cls := "java/lang/StringUTF16", name := "toBytes", desc := "([CII)[B" } : Jvm.MethodName)).before a0 Z = true := hw _ (List.mem_of_getElem? (i := 77) rfl)
set_option maxRecDepth 65536 in
theorem wd78 {Z : State} {a0 : Array Value} (hw : ∀ d ∈ tables_1, d.before a0 Z = true) : (Jvm.Cond.code ({ cls := "java/lang/StringUTF16", name := "toBytes", desc := "([CII)[B" } : Jvm.MethodName) jdk_52_method_14_code (5 : Nat) (Option.some (Jvm.ClassFile.FieldType.array Jvm.ClassFile.FieldType.byte))).before a0 Z = true := hw _ (List.mem_of_getElem? (i := 78) rfl)
theorem dC3_26 : Dc jdk_52_method_16_code 26 (.astore 5) 2 28 := ⟨by decide +kernel, rfl⟩
theorem dC3_28 : Dc jdk_52_method_16_code 28 (.aload 5) 2 30 := ⟨by decide +kernel, rfl⟩
theorem dC3_30 : Dc jdk_52_method_16_code 30 (.iload 4) 2 32 := ⟨by decide +kernel, rfl⟩
theorem dC3_32 : Dc jdk_52_method_16_code 32 (.invokestatic 71) 3 35 := ⟨by decide +kernel, rfl⟩
theorem dC3_35 : Dc jdk_52_method_16_code 35 (.sipush 255) 3 38 := ⟨by decide +kernel, rfl⟩
theorem dC3_38 : Db jdk_52_method_16_code 38 (.if_icmp .gt 16) 16 41 54 := ⟨by decide +kernel, rfl, by decide, by decide⟩
theorem dC3_54 : Dc jdk_52_method_16_code 54 (.aload 5) 2 56 := ⟨by decide +kernel, rfl⟩
theorem dC3_56 : Dc jdk_52_method_16_code 56 .areturn 1 57 := ⟨by decide +kernel, rfl⟩
theorem efC3 (m : MethodId) (x0 : Addr) (x1 : Int32) (x2 : Int32) : entryFrame m #[.ref x0, .int x1, .int x2] 6 = mkF m 0 #[.val (.ref x0), .val (.int x1), .val (.int x2), .unset, .unset, .unset] [] := by first | (simp [entryFrame, mkF, argsToLocals, Value.category]; done) | rfl
theorem pnC3 : plainFor (⟨"java/lang/StringUTF16", "compress", "([CII)[B"⟩ : MethodName) = true := plainFor_of_name (by first | (simp [plainName, overriddenIn]; done) | decide +kernel)
theorem dCI_0 : Dc jdk_42_method_149_code 0 (.aload_n 0) 1 1 := ⟨by decide +kernel, rfl⟩
theorem dCI_1 : Dc jdk_42_method_149_code 1 (.invokespecial 1) 3 4 := ⟨by decide +kernel, rfl⟩
set_option maxRecDepth 65536 in
theorem wd20 {Z : State} {a0 : Array Value} (hw : ∀ d ∈ tables_1, d.before a0 Z = true) : (Jvm.Cond.methodLink "java/lang/String" (1 : Nat) ({ cls := "java/lang/Object", name := "<init>", desc := "()V" } : Jvm.MethodName)).before a0 Z = true := hw _ (List.mem_of_getElem? (i := 20) rfl)
set_option maxRecDepth 65536 in
theorem wd21 {Z : State} {a0 : Array Value} (hw : ∀ d ∈ tables_1, d.before a0 Z = true) : (Jvm.Cond.instanceMethod ({ cls := "java/lang/Object", name := "<init>", desc := "()V" } : Jvm.MethodName)).before a0 Z = true := hw _ (List.mem_of_getElem? (i := 21) rfl)
set_option maxRecDepth 65536 in
theorem wd22 {Z : State} {a0 : Array Value} (hw : ∀ d ∈ tables_1, d.before a0 Z = true) : (Jvm.Cond.code ({ cls := "java/lang/Object", name := "<init>", desc := "()V" } : Jvm.MethodName) object_method_1_code (1 : Nat) (Option.none : Option Jvm.ClassFile.FieldType)).before a0 Z = true := hw _ (List.mem_of_getElem? (i := 22) rfl)
theorem dCI_4 : Dc jdk_42_method_149_code 4 (.iload_n 3) 1 5 := ⟨by decide +kernel, rfl⟩
theorem dCI_5 : Db jdk_42_method_149_code 5 (.ifCond .ne 22) 22 8 27 := ⟨by decide +kernel, rfl, by decide, by decide⟩
theorem dCI_27 : Dc jdk_42_method_149_code 27 (.getstatic 38) 3 30 := ⟨by decide +kernel, rfl⟩
theorem dCI_30 : Db jdk_42_method_149_code 30 (.ifCond .eq 28) 28 33 58 := ⟨by decide +kernel, rfl, by decide, by decide⟩
theorem dCI_33 : Dc jdk_42_method_149_code 33 (.aload_n 1) 1 34 := ⟨by decide +kernel, rfl⟩
theorem dCI_34 : Dc jdk_42_method_149_code 34 (.iload_n 2) 1 35 := ⟨by decide +kernel, rfl⟩
theorem dCI_35 : Dc jdk_42_method_149_code 35 (.iload_n 3) 1 36 := ⟨by decide +kernel, rfl⟩
theorem dCI_36 : Dc jdk_42_method_149_code 36 (.invokestatic 177) 3 39 := ⟨by decide +kernel, rfl⟩
set_option maxRecDepth 65536 in
theorem wd69 {Z : State} {a0 : Array Value} (hw : ∀ d ∈ tables_1, d.before a0 Z = true) : (Jvm.Cond.methodLink "java/lang/String" (177 : Nat) ({ cls := "java/lang/StringUTF16", name := "compress", desc := "([CII)[B" } : Jvm.MethodName)).before a0 Z = true := hw _ (List.mem_of_getElem? (i := 69) rfl)
set_option maxRecDepth 65536 in
theorem wd70 {Z : State} {a0 : Array Value} (hw : ∀ d ∈ tables_1, d.before a0 Z = true) : (Jvm.Cond.static ({ cls := "java/lang/StringUTF16", name := "compress", desc := "([CII)[B" } : Jvm.MethodName)).before a0 Z = true := hw _ (List.mem_of_getElem? (i := 70) rfl)
set_option maxRecDepth 65536 in
theorem wd72 {Z : State} {a0 : Array Value} (hw : ∀ d ∈ tables_1, d.before a0 Z = true) : (Jvm.Cond.code ({ cls := "java/lang/StringUTF16", name := "compress", desc := "([CII)[B" } : Jvm.MethodName) jdk_52_method_16_code (6 : Nat) (Option.some (Jvm.ClassFile.FieldType.array Jvm.ClassFile.FieldType.byte))).before a0 Z = true := hw _ (List.mem_of_getElem? (i := 72) rfl)
theorem dCI_39 : Dc jdk_42_method_149_code 39 (.astore 5) 2 41 := ⟨by decide +kernel, rfl⟩
theorem dCI_41 : Dc jdk_42_method_149_code 41 (.aload_n 0) 1 42 := ⟨by decide +kernel, rfl⟩
theorem dCI_42 : Dc jdk_42_method_149_code 42 (.aload 5) 2 44 := ⟨by decide +kernel, rfl⟩
theorem dCI_44 : Dc jdk_42_method_149_code 44 (.iload_n 3) 1 45 := ⟨by decide +kernel, rfl⟩
theorem dCI_45 : Dc jdk_42_method_149_code 45 (.invokestatic 47) 3 48 := ⟨by decide +kernel, rfl⟩
theorem pd_17 : parseMethodDescriptor "([BI)B" = some ⟨[(.array .byte), .int], some .byte⟩ := by decide +kernel
set_option maxRecDepth 65536 in
theorem wd95 {Z : State} {a0 : Array Value} (hw : ∀ d ∈ tables_1, d.before a0 Z = true) : (Jvm.Cond.methodLink "java/lang/String" (47 : Nat) ({ cls := "java/lang/StringUTF16", name := "coderFromArrayLen", desc := "([BI)B" } : Jvm.MethodName)).before a0 Z = true := hw _ (List.mem_of_getElem? (i := 95) rfl)
set_option maxRecDepth 65536 in
theorem wd96 {Z : State} {a0 : Array Value} (hw : ∀ d ∈ tables_1, d.before a0 Z = true) : (Jvm.Cond.static ({ cls := "java/lang/StringUTF16", name := "coderFromArrayLen", desc := "([BI)B" } : Jvm.MethodName)).before a0 Z = true := hw _ (List.mem_of_getElem? (i := 96) rfl)
set_option maxRecDepth 65536 in
theorem wd97 {Z : State} {a0 : Array Value} (hw : ∀ d ∈ tables_1, d.before a0 Z = true) : (Jvm.Cond.code ({ cls := "java/lang/StringUTF16", name := "coderFromArrayLen", desc := "([BI)B" } : Jvm.MethodName) jdk_52_method_15_code (2 : Nat) (Option.some Jvm.ClassFile.FieldType.byte)).before a0 Z = true := hw _ (List.mem_of_getElem? (i := 97) rfl)
theorem dCI_48 : Dc jdk_42_method_149_code 48 (.putfield 15) 3 51 := ⟨by decide +kernel, rfl⟩
set_option maxRecDepth 65536 in
theorem wd26 {Z : State} {a0 : Array Value} (hw : ∀ d ∈ tables_1, d.before a0 Z = true) : (Jvm.Cond.laysFinal "java/lang/String" "java/lang/String" "coder" "B").before a0 Z = true := hw _ (List.mem_of_getElem? (i := 26) rfl)
set_option maxRecDepth 65536 in
theorem wd10 {Z : State} {a0 : Array Value} (hw : ∀ d ∈ tables_1, d.before a0 Z = true) : (Jvm.Cond.instantiable "java/lang/String" (4 : Nat)).before a0 Z = true := hw _ (List.mem_of_getElem? (i := 10) rfl)
set_option maxRecDepth 65536 in
theorem wd25 {Z : State} {a0 : Array Value} (hw : ∀ d ∈ tables_1, d.before a0 Z = true) : (Jvm.Cond.laysFinal "java/lang/String" "java/lang/String" "value" "[B").before a0 Z = true := hw _ (List.mem_of_getElem? (i := 25) rfl)
theorem dCI_51 : Dc jdk_42_method_149_code 51 (.aload_n 0) 1 52 := ⟨by decide +kernel, rfl⟩
theorem dCI_52 : Dc jdk_42_method_149_code 52 (.aload 5) 2 54 := ⟨by decide +kernel, rfl⟩
theorem dCI_54 : Dc jdk_42_method_149_code 54 (.putfield 9) 3 57 := ⟨by decide +kernel, rfl⟩
theorem dCI_57 : Dc jdk_42_method_149_code 57 .return_ 1 58 := ⟨by decide +kernel, rfl⟩
theorem efCI (m : MethodId) (x0 : Addr) (x1 : Addr) (x2 : Int32) (x3 : Int32) : entryFrame m #[.ref x0, .ref x1, .int x2, .int x3, .null] 6 = mkF m 0 #[.val (.ref x0), .val (.ref x1), .val (.int x2), .val (.int x3), .val .null, .unset] [] := by first | (simp [entryFrame, mkF, argsToLocals, Value.category]; done) | rfl
theorem pnCI : plainFor (⟨"java/lang/String", "<init>", "([CIILjava/lang/Void;)V"⟩ : MethodName) = true := plainFor_of_name (by first | (simp [plainName, overriddenIn]; done) | decide +kernel)
theorem dCZ_0 : Dc jdk_42_method_149_code 0 (.aload_n 0) 1 1 := ⟨by decide +kernel, rfl⟩
theorem dCZ_1 : Dc jdk_42_method_149_code 1 (.invokespecial 1) 3 4 := ⟨by decide +kernel, rfl⟩
theorem dCZ_4 : Dc jdk_42_method_149_code 4 (.iload_n 3) 1 5 := ⟨by decide +kernel, rfl⟩
theorem dCZ_5 : Db jdk_42_method_149_code 5 (.ifCond .ne 22) 22 8 27 := ⟨by decide +kernel, rfl, by decide, by decide⟩
theorem dCZ_8 : Dc jdk_42_method_149_code 8 (.aload_n 0) 1 9 := ⟨by decide +kernel, rfl⟩
set_option maxRecDepth 65536 in
theorem own_strw : ∀ a ∈ Bundle.stringAtoms, a ∈ tables_1 := by decide +kernel
theorem dCZ_9 : Dc jdk_42_method_149_code 9 (.ldc 7) 2 11 := ⟨by decide +kernel, rfl⟩
set_option maxRecDepth 65536 in
theorem wd23 {Z : State} {a0 : Array Value} (hw : ∀ d ∈ tables_1, d.before a0 Z = true) : (Jvm.Cond.stringLink "java/lang/String" (7 : Nat) "").before a0 Z = true := hw _ (List.mem_of_getElem? (i := 23) rfl)
theorem dCZ_11 : Dc jdk_42_method_149_code 11 (.getfield 9) 3 14 := ⟨by decide +kernel, rfl⟩
theorem dCZ_14 : Dc jdk_42_method_149_code 14 (.putfield 9) 3 17 := ⟨by decide +kernel, rfl⟩
theorem dCZ_17 : Dc jdk_42_method_149_code 17 (.aload_n 0) 1 18 := ⟨by decide +kernel, rfl⟩
theorem dCZ_18 : Dc jdk_42_method_149_code 18 (.ldc 7) 2 20 := ⟨by decide +kernel, rfl⟩
theorem dCZ_20 : Dc jdk_42_method_149_code 20 (.getfield 15) 3 23 := ⟨by decide +kernel, rfl⟩
theorem dCZ_23 : Dc jdk_42_method_149_code 23 (.putfield 15) 3 26 := ⟨by decide +kernel, rfl⟩
theorem dCZ_26 : Dc jdk_42_method_149_code 26 .return_ 1 27 := ⟨by decide +kernel, rfl⟩
theorem efCZ (m : MethodId) (x0 : Addr) (x1 : Addr) (x2 : Int32) (x3 : Int32) : entryFrame m #[.ref x0, .ref x1, .int x2, .int x3, .null] 6 = mkF m 0 #[.val (.ref x0), .val (.ref x1), .val (.int x2), .val (.int x3), .val .null, .unset] [] := by first | (simp [entryFrame, mkF, argsToLocals, Value.category]; done) | rfl
theorem pnCZ : plainFor (⟨"java/lang/String", "<init>", "([CIILjava/lang/Void;)V"⟩ : MethodName) = true := plainFor_of_name (by first | (simp [plainName, overriddenIn]; done) | decide +kernel)
theorem dSI_0 : Dc jdk_42_method_3_code 0 (.aload_n 0) 1 1 := ⟨by decide +kernel, rfl⟩
theorem dSI_1 : Dc jdk_42_method_3_code 1 (.aload_n 1) 1 2 := ⟨by decide +kernel, rfl⟩
theorem dSI_2 : Dc jdk_42_method_3_code 2 (.iconst 0) 1 3 := ⟨by decide +kernel, rfl⟩
theorem dSI_3 : Dc jdk_42_method_3_code 3 (.aload_n 1) 1 4 := ⟨by decide +kernel, rfl⟩
theorem dSI_4 : Dc jdk_42_method_3_code 4 .arraylength 1 5 := ⟨by decide +kernel, rfl⟩
theorem dSI_5 : Dc jdk_42_method_3_code 5 .aconst_null 1 6 := ⟨by decide +kernel, rfl⟩
theorem dSI_6 : Dc jdk_42_method_3_code 6 (.invokespecial 27) 3 9 := ⟨by decide +kernel, rfl⟩
theorem pd_18 : parseMethodDescriptor "([CIILjava/lang/Void;)V" = some ⟨[(.array .char), .int, .int, (.object "java/lang/Void")], none⟩ := by decide +kernel
set_option maxRecDepth 65536 in
theorem wd16 {Z : State} {a0 : Array Value} (hw : ∀ d ∈ tables_1, d.before a0 Z = true) : (Jvm.Cond.methodLink "java/lang/String" (27 : Nat) ({ cls := "java/lang/String", name := "<init>", desc := "([CIILjava/lang/Void;)V" } : Jvm.MethodName)).before a0 Z = true := hw _ (List.mem_of_getElem? (i := 16) rfl)
set_option maxRecDepth 65536 in
theorem wd17 {Z : State} {a0 : Array Value} (hw : ∀ d ∈ tables_1, d.before a0 Z = true) : (Jvm.Cond.instanceMethod ({ cls := "java/lang/String", name := "<init>", desc := "([CIILjava/lang/Void;)V" } : Jvm.MethodName)).before a0 Z = true := hw _ (List.mem_of_getElem? (i := 17) rfl)
set_option maxRecDepth 65536 in
theorem wd19 {Z : State} {a0 : Array Value} (hw : ∀ d ∈ tables_1, d.before a0 Z = true) : (Jvm.Cond.code ({ cls := "java/lang/String", name := "<init>", desc := "([CIILjava/lang/Void;)V" } : Jvm.MethodName) jdk_42_method_149_code (6 : Nat) (Option.none : Option Jvm.ClassFile.FieldType)).before a0 Z = true := hw _ (List.mem_of_getElem? (i := 19) rfl)
theorem dSI_9 : Dc jdk_42_method_3_code 9 .return_ 1 10 := ⟨by decide +kernel, rfl⟩
theorem efSI (m : MethodId) (x0 : Addr) (x1 : Addr) : entryFrame m #[.ref x0, .ref x1] 2 = mkF m 0 #[.val (.ref x0), .val (.ref x1)] [] := by first | (simp [entryFrame, mkF, argsToLocals, Value.category]; done) | rfl
theorem pnSI : plainFor (⟨"java/lang/String", "<init>", "([C)V"⟩ : MethodName) = true := plainFor_of_name (by first | (simp [plainName, overriddenIn]; done) | decide +kernel)
theorem dSZ_0 : Dc jdk_42_method_3_code 0 (.aload_n 0) 1 1 := ⟨by decide +kernel, rfl⟩
theorem dSZ_1 : Dc jdk_42_method_3_code 1 (.aload_n 1) 1 2 := ⟨by decide +kernel, rfl⟩
theorem dSZ_2 : Dc jdk_42_method_3_code 2 (.iconst 0) 1 3 := ⟨by decide +kernel, rfl⟩
theorem dSZ_3 : Dc jdk_42_method_3_code 3 (.aload_n 1) 1 4 := ⟨by decide +kernel, rfl⟩
theorem dSZ_4 : Dc jdk_42_method_3_code 4 .arraylength 1 5 := ⟨by decide +kernel, rfl⟩
theorem dSZ_5 : Dc jdk_42_method_3_code 5 .aconst_null 1 6 := ⟨by decide +kernel, rfl⟩
theorem dSZ_6 : Dc jdk_42_method_3_code 6 (.invokespecial 27) 3 9 := ⟨by decide +kernel, rfl⟩
theorem dSZ_9 : Dc jdk_42_method_3_code 9 .return_ 1 10 := ⟨by decide +kernel, rfl⟩
theorem efSZ (m : MethodId) (x0 : Addr) (x1 : Addr) : entryFrame m #[.ref x0, .ref x1] 2 = mkF m 0 #[.val (.ref x0), .val (.ref x1)] [] := by first | (simp [entryFrame, mkF, argsToLocals, Value.category]; done) | rfl
theorem pnSZ : plainFor (⟨"java/lang/String", "<init>", "([C)V"⟩ : MethodName) = true := plainFor_of_name (by first | (simp [plainName, overriddenIn]; done) | decide +kernel)
theorem dMK_0 : Dc method_3_code 0 (.iload_n 0) 1 1 := ⟨by decide +kernel, rfl⟩
theorem dMK_1 : Db method_3_code 1 (.ifCond .ne 14) 14 4 15 := ⟨by decide +kernel, rfl, by decide, by decide⟩
theorem dMK_4 : Dc method_3_code 4 (.new 9) 3 7 := ⟨by decide +kernel, rfl⟩
set_option maxRecDepth 65536 in
theorem wd9 {Z : State} {a0 : Array Value} (hw : ∀ d ∈ tables_1, d.before a0 Z = true) : (Jvm.Cond.classLink "com/example/vestwright/vestwright/InputFilesIsUtf8PinLaw" (9 : Nat) "java/lang/String").before a0 Z = true := hw _ (List.mem_of_getElem? (i := 9) rfl)
theorem dMK_7 : Dc method_3_code 7 .dup 1 8 := ⟨by decide +kernel, rfl⟩
theorem dMK_8 : Dc method_3_code 8 (.iconst 0) 1 9 := ⟨by decide +kernel, rfl⟩
theorem dMK_9 : Dc method_3_code 9 (.newarray .char) 2 11 := ⟨by decide +kernel, rfl⟩
set_option maxRecDepth 65536 in
theorem wd12 {Z : State} {a0 : Array Value} (hw : ∀ d ∈ tables_1, d.before a0 Z = true) : (Jvm.Cond.arrayClass Jvm.ClassFile.FieldType.char).before a0 Z = true := hw _ (List.mem_of_getElem? (i := 12) rfl)
theorem dMK_11 : Dc method_3_code 11 (.invokespecial 11) 3 14 := ⟨by decide +kernel, rfl⟩
theorem pd_19 : parseMethodDescriptor "([C)V" = some ⟨[(.array .char)], none⟩ := by decide +kernel
set_option maxRecDepth 65536 in
theorem wd13 {Z : State} {a0 : Array Value} (hw : ∀ d ∈ tables_1, d.before a0 Z = true) : (Jvm.Cond.methodLink "com/example/vestwright/vestwright/InputFilesIsUtf8PinLaw" (11 : Nat) ({ cls := "java/lang/String", name := "<init>", desc := "([C)V" } : Jvm.MethodName)).before a0 Z = true := hw _ (List.mem_of_getElem? (i := 13) rfl)
set_option maxRecDepth 65536 in
theorem wd14 {Z : State} {a0 : Array Value} (hw : ∀ d ∈ tables_1, d.before a0 Z = true) : (Jvm.Cond.instanceMethod ({ cls := "java/lang/String", name := "<init>", desc := "([C)V" } : Jvm.MethodName)).before a0 Z = true := hw _ (List.mem_of_getElem? (i := 14) rfl)
set_option maxRecDepth 65536 in
theorem wd15 {Z : State} {a0 : Array Value} (hw : ∀ d ∈ tables_1, d.before a0 Z = true) : (Jvm.Cond.code ({ cls := "java/lang/String", name := "<init>", desc := "([C)V" } : Jvm.MethodName) jdk_42_method_3_code (2 : Nat) (Option.none : Option Jvm.ClassFile.FieldType)).before a0 Z = true := hw _ (List.mem_of_getElem? (i := 15) rfl)
theorem dMK_14 : Dc method_3_code 14 .areturn 1 15 := ⟨by decide +kernel, rfl⟩
theorem dMK_15 : Dc method_3_code 15 (.iload_n 0) 1 16 := ⟨by decide +kernel, rfl⟩
theorem dMK_16 : Dc method_3_code 16 (.iconst 1) 1 17 := ⟨by decide +kernel, rfl⟩
theorem dMK_17 : Db method_3_code 17 (.if_icmp .ne 18) 18 20 35 := ⟨by decide +kernel, rfl, by decide, by decide⟩
theorem dMK_20 : Dc method_3_code 20 (.new 9) 3 23 := ⟨by decide +kernel, rfl⟩
theorem dMK_23 : Dc method_3_code 23 .dup 1 24 := ⟨by decide +kernel, rfl⟩
theorem dMK_24 : Dc method_3_code 24 (.iconst 1) 1 25 := ⟨by decide +kernel, rfl⟩
theorem dMK_25 : Dc method_3_code 25 (.newarray .char) 2 27 := ⟨by decide +kernel, rfl⟩
theorem dMK_27 : Dc method_3_code 27 .dup 1 28 := ⟨by decide +kernel, rfl⟩
theorem dMK_28 : Dc method_3_code 28 (.iconst 0) 1 29 := ⟨by decide +kernel, rfl⟩
theorem dMK_29 : Dc method_3_code 29 (.iload_n 1) 1 30 := ⟨by decide +kernel, rfl⟩
theorem dMK_30 : Dc method_3_code 30 .castore 1 31 := ⟨by decide +kernel, rfl⟩
theorem dMK_31 : Dc method_3_code 31 (.invokespecial 11) 3 34 := ⟨by decide +kernel, rfl⟩
theorem dMK_34 : Dc method_3_code 34 .areturn 1 35 := ⟨by decide +kernel, rfl⟩
theorem dMK_35 : Dc method_3_code 35 (.iload_n 0) 1 36 := ⟨by decide +kernel, rfl⟩
theorem dMK_36 : Dc method_3_code 36 (.iconst 2) 1 37 := ⟨by decide +kernel, rfl⟩
theorem dMK_37 : Db method_3_code 37 (.if_icmp .ne 22) 22 40 59 := ⟨by decide +kernel, rfl, by decide, by decide⟩
theorem dMK_40 : Dc method_3_code 40 (.new 9) 3 43 := ⟨by decide +kernel, rfl⟩
theorem dMK_43 : Dc method_3_code 43 .dup 1 44 := ⟨by decide +kernel, rfl⟩
theorem dMK_44 : Dc method_3_code 44 (.iconst 2) 1 45 := ⟨by decide +kernel, rfl⟩
theorem dMK_45 : Dc method_3_code 45 (.newarray .char) 2 47 := ⟨by decide +kernel, rfl⟩
theorem dMK_47 : Dc method_3_code 47 .dup 1 48 := ⟨by decide +kernel, rfl⟩
theorem dMK_48 : Dc method_3_code 48 (.iconst 0) 1 49 := ⟨by decide +kernel, rfl⟩
theorem dMK_49 : Dc method_3_code 49 (.iload_n 1) 1 50 := ⟨by decide +kernel, rfl⟩
theorem dMK_50 : Dc method_3_code 50 .castore 1 51 := ⟨by decide +kernel, rfl⟩
theorem dMK_51 : Dc method_3_code 51 .dup 1 52 := ⟨by decide +kernel, rfl⟩
theorem dMK_52 : Dc method_3_code 52 (.iconst 1) 1 53 := ⟨by decide +kernel, rfl⟩
theorem dMK_53 : Dc method_3_code 53 (.iload_n 2) 1 54 := ⟨by decide +kernel, rfl⟩
theorem dMK_54 : Dc method_3_code 54 .castore 1 55 := ⟨by decide +kernel, rfl⟩
theorem dMK_55 : Dc method_3_code 55 (.invokespecial 11) 3 58 := ⟨by decide +kernel, rfl⟩
theorem dMK_58 : Dc method_3_code 58 .areturn 1 59 := ⟨by decide +kernel, rfl⟩
theorem dMK_59 : Dc method_3_code 59 (.iload_n 0) 1 60 := ⟨by decide +kernel, rfl⟩
theorem dMK_60 : Dc method_3_code 60 (.iconst 3) 1 61 := ⟨by decide +kernel, rfl⟩
theorem dMK_61 : Db method_3_code 61 (.if_icmp .ne 26) 26 64 87 := ⟨by decide +kernel, rfl, by decide, by decide⟩
theorem dMK_64 : Dc method_3_code 64 (.new 9) 3 67 := ⟨by decide +kernel, rfl⟩
theorem dMK_67 : Dc method_3_code 67 .dup 1 68 := ⟨by decide +kernel, rfl⟩
theorem dMK_68 : Dc method_3_code 68 (.iconst 3) 1 69 := ⟨by decide +kernel, rfl⟩
theorem dMK_69 : Dc method_3_code 69 (.newarray .char) 2 71 := ⟨by decide +kernel, rfl⟩
theorem dMK_71 : Dc method_3_code 71 .dup 1 72 := ⟨by decide +kernel, rfl⟩
theorem dMK_72 : Dc method_3_code 72 (.iconst 0) 1 73 := ⟨by decide +kernel, rfl⟩
theorem dMK_73 : Dc method_3_code 73 (.iload_n 1) 1 74 := ⟨by decide +kernel, rfl⟩
theorem dMK_74 : Dc method_3_code 74 .castore 1 75 := ⟨by decide +kernel, rfl⟩
theorem dMK_75 : Dc method_3_code 75 .dup 1 76 := ⟨by decide +kernel, rfl⟩
theorem dMK_76 : Dc method_3_code 76 (.iconst 1) 1 77 := ⟨by decide +kernel, rfl⟩
theorem dMK_77 : Dc method_3_code 77 (.iload_n 2) 1 78 := ⟨by decide +kernel, rfl⟩
theorem dMK_78 : Dc method_3_code 78 .castore 1 79 := ⟨by decide +kernel, rfl⟩
theorem dMK_79 : Dc method_3_code 79 .dup 1 80 := ⟨by decide +kernel, rfl⟩
theorem dMK_80 : Dc method_3_code 80 (.iconst 2) 1 81 := ⟨by decide +kernel, rfl⟩
theorem dMK_81 : Dc method_3_code 81 (.iload_n 3) 1 82 := ⟨by decide +kernel, rfl⟩
theorem dMK_82 : Dc method_3_code 82 .castore 1 83 := ⟨by decide +kernel, rfl⟩
theorem dMK_83 : Dc method_3_code 83 (.invokespecial 11) 3 86 := ⟨by decide +kernel, rfl⟩
theorem dMK_86 : Dc method_3_code 86 .areturn 1 87 := ⟨by decide +kernel, rfl⟩
theorem dMK_87 : Dc method_3_code 87 (.new 9) 3 90 := ⟨by decide +kernel, rfl⟩
theorem dMK_90 : Dc method_3_code 90 .dup 1 91 := ⟨by decide +kernel, rfl⟩
theorem dMK_91 : Dc method_3_code 91 (.iconst 4) 1 92 := ⟨by decide +kernel, rfl⟩
theorem dMK_92 : Dc method_3_code 92 (.newarray .char) 2 94 := ⟨by decide +kernel, rfl⟩
theorem dMK_94 : Dc method_3_code 94 .dup 1 95 := ⟨by decide +kernel, rfl⟩
theorem dMK_95 : Dc method_3_code 95 (.iconst 0) 1 96 := ⟨by decide +kernel, rfl⟩
theorem dMK_96 : Dc method_3_code 96 (.iload_n 1) 1 97 := ⟨by decide +kernel, rfl⟩
theorem dMK_97 : Dc method_3_code 97 .castore 1 98 := ⟨by decide +kernel, rfl⟩
theorem dMK_98 : Dc method_3_code 98 .dup 1 99 := ⟨by decide +kernel, rfl⟩
theorem dMK_99 : Dc method_3_code 99 (.iconst 1) 1 100 := ⟨by decide +kernel, rfl⟩
theorem dMK_100 : Dc method_3_code 100 (.iload_n 2) 1 101 := ⟨by decide +kernel, rfl⟩
theorem dMK_101 : Dc method_3_code 101 .castore 1 102 := ⟨by decide +kernel, rfl⟩
theorem dMK_102 : Dc method_3_code 102 .dup 1 103 := ⟨by decide +kernel, rfl⟩
theorem dMK_103 : Dc method_3_code 103 (.iconst 2) 1 104 := ⟨by decide +kernel, rfl⟩
theorem dMK_104 : Dc method_3_code 104 (.iload_n 3) 1 105 := ⟨by decide +kernel, rfl⟩
theorem dMK_105 : Dc method_3_code 105 .castore 1 106 := ⟨by decide +kernel, rfl⟩
theorem dMK_106 : Dc method_3_code 106 .dup 1 107 := ⟨by decide +kernel, rfl⟩
theorem dMK_107 : Dc method_3_code 107 (.iconst 3) 1 108 := ⟨by decide +kernel, rfl⟩
theorem dMK_108 : Dc method_3_code 108 (.iload 4) 2 110 := ⟨by decide +kernel, rfl⟩
theorem dMK_110 : Dc method_3_code 110 .castore 1 111 := ⟨by decide +kernel, rfl⟩
theorem dMK_111 : Dc method_3_code 111 (.invokespecial 11) 3 114 := ⟨by decide +kernel, rfl⟩
theorem dMK_114 : Dc method_3_code 114 .areturn 1 115 := ⟨by decide +kernel, rfl⟩
theorem efMK (m : MethodId) (x0 : Int32) (x1 : Int32) (x2 : Int32) (x3 : Int32) (x4 : Int32) : entryFrame m #[.int x0, .int x1, .int x2, .int x3, .int x4] 5 = mkF m 0 #[.val (.int x0), .val (.int x1), .val (.int x2), .val (.int x3), .val (.int x4)] [] := by first | (simp [entryFrame, mkF, argsToLocals, Value.category]; done) | rfl
theorem pnMK : plainFor (⟨"com/example/vestwright/vestwright/InputFilesIsUtf8PinLaw", "make", "(ICCCC)Ljava/lang/String;"⟩ : MethodName) = true := plainFor_of_name (by first | (simp [plainName, overriddenIn]; done) | decide +kernel)
theorem dCH_0 : Pl.Dc method_2_code 0 (.iload_n 0) 1 1 := ⟨by decide +kernel, rfl⟩
theorem dCH_1 : Pl.Dc method_2_code 1 (.bipush 16) 2 3 := ⟨by decide +kernel, rfl⟩
theorem dCH_3 : Pl.Dc method_2_code 3 .iushr 1 4 := ⟨by decide +kernel, rfl⟩
theorem dCH_4 : Pl.Dc method_2_code 4 (.iconst 3) 1 5 := ⟨by decide +kernel, rfl⟩
theorem dCH_5 : Pl.Dc method_2_code 5 .iand 1 6 := ⟨by decide +kernel, rfl⟩
theorem dCH_6 : Pl.Dc method_2_code 6 (.istore_n 1) 1 7 := ⟨by decide +kernel, rfl⟩
theorem dCH_7 : Pl.Dc method_2_code 7 (.iload_n 1) 1 8 := ⟨by decide +kernel, rfl⟩
theorem dCH_8 : Pl.Db method_2_code 8 (.ifCond .ne 6) 6 11 14 := ⟨by decide +kernel, rfl, by decide, by decide⟩
theorem dCH_11 : Pl.Dc method_2_code 11 (.ldc 7) 2 13 := ⟨by decide +kernel, rfl⟩
set_option maxRecDepth 65536 in
theorem wd5 {Z : State} {a0 : Array Value} (hw : ∀ d ∈ tables_1, d.before a0 Z = true) : (Jvm.Cond.constant "com/example/vestwright/vestwright/InputFilesIsUtf8PinLaw" (7 : Nat) (65533 : Int32)).before a0 Z = true := hw _ (List.mem_of_getElem? (i := 5) rfl)
theorem dCH_13 : Pl.Dc method_2_code 13 .ireturn 1 14 := ⟨by decide +kernel, rfl⟩
theorem dCH_14 : Pl.Dc method_2_code 14 (.iload_n 1) 1 15 := ⟨by decide +kernel, rfl⟩
theorem dCH_15 : Pl.Dc method_2_code 15 (.iconst 1) 1 16 := ⟨by decide +kernel, rfl⟩
theorem dCH_16 : Pl.Db method_2_code 16 (.if_icmp .ne 14) 14 19 30 := ⟨by decide +kernel, rfl, by decide, by decide⟩
theorem dCH_19 : Pl.Dc method_2_code 19 (.ldc 8) 2 21 := ⟨by decide +kernel, rfl⟩
set_option maxRecDepth 65536 in
theorem wd129 {Z : State} {a0 : Array Value} (hw : ∀ d ∈ tables_1, d.before a0 Z = true) : (Jvm.Cond.constant "com/example/vestwright/vestwright/InputFilesIsUtf8PinLaw" (8 : Nat) (65532 : Int32)).before a0 Z = true := hw _ (List.mem_of_getElem? (i := 129) rfl)
theorem dCH_21 : Pl.Dc method_2_code 21 (.iload_n 0) 1 22 := ⟨by decide +kernel, rfl⟩
theorem dCH_22 : Pl.Dc method_2_code 22 (.bipush 8) 2 24 := ⟨by decide +kernel, rfl⟩
theorem dCH_24 : Pl.Dc method_2_code 24 .iushr 1 25 := ⟨by decide +kernel, rfl⟩
theorem dCH_25 : Pl.Dc method_2_code 25 (.iconst 3) 1 26 := ⟨by decide +kernel, rfl⟩
theorem dCH_26 : Pl.Dc method_2_code 26 .iand 1 27 := ⟨by decide +kernel, rfl⟩
theorem dCH_27 : Pl.Dc method_2_code 27 .iadd 1 28 := ⟨by decide +kernel, rfl⟩
theorem dCH_28 : Pl.Dc method_2_code 28 .i2c 1 29 := ⟨by decide +kernel, rfl⟩
theorem dCH_29 : Pl.Dc method_2_code 29 .ireturn 1 30 := ⟨by decide +kernel, rfl⟩
theorem dCH_30 : Pl.Dc method_2_code 30 (.iload_n 0) 1 31 := ⟨by decide +kernel, rfl⟩
theorem dCH_31 : Pl.Dc method_2_code 31 .i2c 1 32 := ⟨by decide +kernel, rfl⟩
theorem dCH_32 : Pl.Dc method_2_code 32 .ireturn 1 33 := ⟨by decide +kernel, rfl⟩
theorem efCH (m : MethodId) (x0 : Int32) : entryFrame m #[.int x0] 2 = mkF m 0 #[.val (.int x0), .unset] [] := by first | (simp [entryFrame, mkF, argsToLocals, Value.category]; done) | rfl
theorem pnCH : plainFor (⟨"com/example/vestwright/vestwright/InputFilesIsUtf8PinLaw", "ch", "(I)C"⟩ : MethodName) = true := plainFor_of_name (by first | (simp [plainName, overriddenIn]; done) | decide +kernel)
theorem d0_0 : Dc code 0 (.iload_n 0) 1 1 := ⟨by decide +kernel, rfl⟩
theorem d0_1 : Dc code 1 (.ldc 14) 2 3 := ⟨by decide +kernel, rfl⟩
set_option maxRecDepth 65536 in
theorem wd0 {Z : State} {a0 : Array Value} (hw : ∀ d ∈ tables_1, d.before a0 Z = true) : (Jvm.Cond.constant "com/example/vestwright/vestwright/InputFilesIsUtf8PinLaw" (14 : Nat) (2147483647 : Int32)).before a0 Z = true := hw _ (List.mem_of_getElem? (i := 0) rfl)
theorem d0_3 : Dc code 3 .iand 1 4 := ⟨by decide +kernel, rfl⟩
theorem d0_4 : Dc code 4 (.iconst 5) 1 5 := ⟨by decide +kernel, rfl⟩
theorem d0_5 : Dc code 5 .irem 1 6 := ⟨by decide +kernel, rfl⟩
theorem d0_6 : Dc code 6 (.istore 5) 2 8 := ⟨by decide +kernel, rfl⟩
theorem d0_8 : Dc code 8 (.iload_n 1) 1 9 := ⟨by decide +kernel, rfl⟩
theorem d0_9 : Dc code 9 (.invokestatic 15) 3 12 := ⟨by decide +kernel, rfl⟩
set_option maxRecDepth 65536 in
theorem wd1 {Z : State} {a0 : Array Value} (hw : ∀ d ∈ tables_1, d.before a0 Z = true) : (Jvm.Cond.methodLink "com/example/vestwright/vestwright/InputFilesIsUtf8PinLaw" (15 : Nat) ({ cls := "com/example/vestwright/vestwright/InputFilesIsUtf8PinLaw", name := "ch", desc := "(I)C" } : Jvm.MethodName)).before a0 Z = true := hw _ (List.mem_of_getElem? (i := 1) rfl)
set_option maxRecDepth 65536 in
theorem wd2 {Z : State} {a0 : Array Value} (hw : ∀ d ∈ tables_1, d.before a0 Z = true) : (Jvm.Cond.static ({ cls := "com/example/vestwright/vestwright/InputFilesIsUtf8PinLaw", name := "ch", desc := "(I)C" } : Jvm.MethodName)).before a0 Z = true := hw _ (List.mem_of_getElem? (i := 2) rfl)
set_option maxRecDepth 65536 in
theorem wd3 {Z : State} {a0 : Array Value} (hw : ∀ d ∈ tables_1, d.before a0 Z = true) : (Jvm.Cond.initialized "com/example/vestwright/vestwright/InputFilesIsUtf8PinLaw").before a0 Z = true := hw _ (List.mem_of_getElem? (i := 3) rfl)
set_option maxRecDepth 65536 in
theorem wd4 {Z : State} {a0 : Array Value} (hw : ∀ d ∈ tables_1, d.before a0 Z = true) : (Jvm.Cond.code ({ cls := "com/example/vestwright/vestwright/InputFilesIsUtf8PinLaw", name := "ch", desc := "(I)C" } : Jvm.MethodName) method_2_code (2 : Nat) (Option.some Jvm.ClassFile.FieldType.char)).before a0 Z = true := hw _ (List.mem_of_getElem? (i := 4) rfl)
theorem pd_20 : parseMethodDescriptor "(I)C" = some ⟨[.int], some .char⟩ := by decide +kernel
theorem d0_12 : Dc code 12 (.istore 6) 2 14 := ⟨by decide +kernel, rfl⟩
theorem d0_14 : Dc code 14 (.iload_n 2) 1 15 := ⟨by decide +kernel, rfl⟩
theorem d0_15 : Dc code 15 (.invokestatic 15) 3 18 := ⟨by decide +kernel, rfl⟩
theorem d0_18 : Dc code 18 (.istore 7) 2 20 := ⟨by decide +kernel, rfl⟩
theorem d0_20 : Dc code 20 (.iload_n 3) 1 21 := ⟨by decide +kernel, rfl⟩
theorem d0_21 : Dc code 21 (.invokestatic 15) 3 24 := ⟨by decide +kernel, rfl⟩
theorem d0_24 : Dc code 24 (.istore 8) 2 26 := ⟨by decide +kernel, rfl⟩
theorem d0_26 : Dc code 26 (.iload 4) 2 28 := ⟨by decide +kernel, rfl⟩
theorem d0_28 : Dc code 28 (.invokestatic 15) 3 31 := ⟨by decide +kernel, rfl⟩
theorem d0_31 : Dc code 31 (.istore 9) 2 33 := ⟨by decide +kernel, rfl⟩
theorem d0_33 : Dc code 33 (.iload 5) 2 35 := ⟨by decide +kernel, rfl⟩
theorem d0_35 : Dc code 35 (.iload 6) 2 37 := ⟨by decide +kernel, rfl⟩
theorem d0_37 : Dc code 37 (.iload 7) 2 39 := ⟨by decide +kernel, rfl⟩
theorem d0_39 : Dc code 39 (.iload 8) 2 41 := ⟨by decide +kernel, rfl⟩
theorem d0_41 : Dc code 41 (.iload 9) 2 43 := ⟨by decide +kernel, rfl⟩
theorem d0_43 : Dc code 43 (.invokestatic 21) 3 46 := ⟨by decide +kernel, rfl⟩
theorem pd_21 : parseMethodDescriptor "(ICCCC)Ljava/lang/String;" = some ⟨[.int, .char, .char, .char, .char], some (.object "java/lang/String")⟩ := by decide +kernel
set_option maxRecDepth 65536 in
theorem wd6 {Z : State} {a0 : Array Value} (hw : ∀ d ∈ tables_1, d.before a0 Z = true) : (Jvm.Cond.methodLink "com/example/vestwright/vestwright/InputFilesIsUtf8PinLaw" (21 : Nat) ({ cls := "com/example/vestwright/vestwright/InputFilesIsUtf8PinLaw", name := "make", desc := "(ICCCC)Ljava/lang/String;" } : Jvm.MethodName)).before a0 Z = true := hw _ (List.mem_of_getElem? (i := 6) rfl)
set_option maxRecDepth 65536 in
theorem wd7 {Z : State} {a0 : Array Value} (hw : ∀ d ∈ tables_1, d.before a0 Z = true) : (Jvm.Cond.static ({ cls := "com/example/vestwright/vestwright/InputFilesIsUtf8PinLaw", name := "make", desc := "(ICCCC)Ljava/lang/String;" } : Jvm.MethodName)).before a0 Z = true := hw _ (List.mem_of_getElem? (i := 7) rfl)
set_option maxRecDepth 65536 in
theorem wd8 {Z : State} {a0 : Array Value} (hw : ∀ d ∈ tables_1, d.before a0 Z = true) : (Jvm.Cond.code ({ cls := "com/example/vestwright/vestwright/InputFilesIsUtf8PinLaw", name := "make", desc := "(ICCCC)Ljava/lang/String;" } : Jvm.MethodName) method_3_code (5 : Nat) (Option.some (Jvm.ClassFile.FieldType.object "java/lang/String"))).before a0 Z = true := hw _ (List.mem_of_getElem? (i := 8) rfl)
theorem d0_46 : Dc code 46 (.astore 10) 2 48 := ⟨by decide +kernel, rfl⟩
theorem d0_48 : Dc code 48 (.iload 5) 2 50 := ⟨by decide +kernel, rfl⟩
theorem d0_50 : Db code 50 (.ifCond .le 10) 10 53 60 := ⟨by decide +kernel, rfl, by decide, by decide⟩
theorem d0_53 : Dc code 53 (.iload 6) 2 55 := ⟨by decide +kernel, rfl⟩
theorem d0_55 : Dc code 55 (.ldc 7) 2 57 := ⟨by decide +kernel, rfl⟩
theorem d0_57 : Db code 57 (.if_icmp .eq 42) 42 60 99 := ⟨by decide +kernel, rfl, by decide, by decide⟩
theorem d0_99 : Dc code 99 (.iconst 1) 1 100 := ⟨by decide +kernel, rfl⟩
theorem d0_100 : Db code 100 (.goto 4) 4 103 104 := ⟨by decide +kernel, rfl, by decide, by decide⟩
theorem d0_60 : Dc code 60 (.iload 5) 2 62 := ⟨by decide +kernel, rfl⟩
theorem d0_62 : Dc code 62 (.iconst 1) 1 63 := ⟨by decide +kernel, rfl⟩
theorem d0_63 : Db code 63 (.if_icmp .le 10) 10 66 73 := ⟨by decide +kernel, rfl, by decide, by decide⟩
theorem d0_66 : Dc code 66 (.iload 7) 2 68 := ⟨by decide +kernel, rfl⟩
theorem d0_68 : Dc code 68 (.ldc 7) 2 70 := ⟨by decide +kernel, rfl⟩
theorem d0_70 : Db code 70 (.if_icmp .eq 29) 29 73 99 := ⟨by decide +kernel, rfl, by decide, by decide⟩
theorem d0_73 : Dc code 73 (.iload 5) 2 75 := ⟨by decide +kernel, rfl⟩
theorem d0_75 : Dc code 75 (.iconst 2) 1 76 := ⟨by decide +kernel, rfl⟩
theorem d0_76 : Db code 76 (.if_icmp .le 10) 10 79 86 := ⟨by decide +kernel, rfl, by decide, by decide⟩
theorem d0_79 : Dc code 79 (.iload 8) 2 81 := ⟨by decide +kernel, rfl⟩
theorem d0_81 : Dc code 81 (.ldc 7) 2 83 := ⟨by decide +kernel, rfl⟩
theorem d0_83 : Db code 83 (.if_icmp .eq 16) 16 86 99 := ⟨by decide +kernel, rfl, by decide, by decide⟩
theorem d0_86 : Dc code 86 (.iload 5) 2 88 := ⟨by decide +kernel, rfl⟩
theorem d0_88 : Dc code 88 (.iconst 3) 1 89 := ⟨by decide +kernel, rfl⟩
theorem d0_89 : Db code 89 (.if_icmp .le 14) 14 92 103 := ⟨by decide +kernel, rfl, by decide, by decide⟩
theorem d0_92 : Dc code 92 (.iload 9) 2 94 := ⟨by decide +kernel, rfl⟩
theorem d0_94 : Dc code 94 (.ldc 7) 2 96 := ⟨by decide +kernel, rfl⟩
theorem d0_96 : Db code 96 (.if_icmp .ne 7) 7 99 103 := ⟨by decide +kernel, rfl, by decide, by decide⟩
theorem d0_103 : Dc code 103 (.iconst 0) 1 104 := ⟨by decide +kernel, rfl⟩
theorem d0_104 : Dc code 104 (.istore 11) 2 106 := ⟨by decide +kernel, rfl⟩
theorem d0_106 : Dc code 106 (.iload 11) 2 108 := ⟨by decide +kernel, rfl⟩
theorem d0_108 : Db code 108 (.ifCond .ne 7) 7 111 115 := ⟨by decide +kernel, rfl, by decide, by decide⟩
theorem d0_111 : Dc code 111 (.iconst 1) 1 112 := ⟨by decide +kernel, rfl⟩
theorem d0_112 : Db code 112 (.goto 4) 4 115 116 := ⟨by decide +kernel, rfl, by decide, by decide⟩
theorem d0_115 : Dc code 115 (.iconst 0) 1 116 := ⟨by decide +kernel, rfl⟩
theorem d0_116 : Dc code 116 (.istore 12) 2 118 := ⟨by decide +kernel, rfl⟩
theorem d0_118 : Dc code 118 (.aload 10) 2 120 := ⟨by decide +kernel, rfl⟩
theorem d0_120 : Dc code 120 (.invokestatic 25) 3 123 := ⟨by decide +kernel, rfl⟩
set_option maxRecDepth 65536 in
theorem wd33 {Z : State} {a0 : Array Value} (hw : ∀ d ∈ tables_1, d.before a0 Z = true) : (Jvm.Cond.initialized "com/example/vestwright/vestwright/InputFiles").before a0 Z = true := hw _ (List.mem_of_getElem? (i := 33) rfl)
theorem pd_22 : parseMethodDescriptor "(Ljava/lang/String;)Z" = some ⟨[(.object "java/lang/String")], some .boolean⟩ := by decide +kernel
set_option maxRecDepth 65536 in
theorem wd31 {Z : State} {a0 : Array Value} (hw : ∀ d ∈ tables_1, d.before a0 Z = true) : (Jvm.Cond.methodLink "com/example/vestwright/vestwright/InputFilesIsUtf8PinLaw" (25 : Nat) ({ cls := "com/example/vestwright/vestwright/InputFiles", name := "isUtf8", desc := "(Ljava/lang/String;)Z" } : Jvm.MethodName)).before a0 Z = true := hw _ (List.mem_of_getElem? (i := 31) rfl)
set_option maxRecDepth 65536 in
theorem wd32 {Z : State} {a0 : Array Value} (hw : ∀ d ∈ tables_1, d.before a0 Z = true) : (Jvm.Cond.static ({ cls := "com/example/vestwright/vestwright/InputFiles", name := "isUtf8", desc := "(Ljava/lang/String;)Z" } : Jvm.MethodName)).before a0 Z = true := hw _ (List.mem_of_getElem? (i := 32) rfl)
set_option maxRecDepth 65536 in
theorem wd34 {Z : State} {a0 : Array Value} (hw : ∀ d ∈ tables_1, d.before a0 Z = true) : (Jvm.Cond.code ({ cls := "com/example/vestwright/vestwright/InputFiles", name := "isUtf8", desc := "(Ljava/lang/String;)Z" } : Jvm.MethodName) prog_23_method_3_code (1 : Nat) (Option.some Jvm.ClassFile.FieldType.boolean)).before a0 Z = true := hw _ (List.mem_of_getElem? (i := 34) rfl)
theorem d0_123 : Dc code 123 (.iload 12) 2 125 := ⟨by decide +kernel, rfl⟩
theorem d0_125 : Db code 125 (.if_icmp .ne 7) 7 128 132 := ⟨by decide +kernel, rfl, by decide, by decide⟩
theorem d0_128 : Dc code 128 (.iconst 1) 1 129 := ⟨by decide +kernel, rfl⟩
theorem d0_129 : Db code 129 (.goto 4) 4 132 133 := ⟨by decide +kernel, rfl, by decide, by decide⟩
theorem d0_133 : Dc code 133 .ireturn 1 134 := ⟨by decide +kernel, rfl⟩
theorem ef0 (m : MethodId) (x0 : Int32) (x1 : Int32) (x2 : Int32) (x3 : Int32) (x4 : Int32) : entryFrame m #[.int x0, .int x1, .int x2, .int x3, .int x4] maxLocals = mkF m 0 #[.val (.int x0), .val (.int x1), .val (.int x2), .val (.int x3), .val (.int x4), .unset, .unset, .unset, .unset, .unset, .unset, .unset, .unset] [] := by first | (simp [entryFrame, mkF, argsToLocals, Value.category, maxLocals]; done) | rfl
theorem pn0 : plainFor (x : MethodName) = true := plainFor_of_name (by show plainName "com/example/vestwright/vestwright/InputFilesIsUtf8PinLaw" = true; first | (simp [plainName, overriddenIn]; done) | decide +kernel)
/-! small numbers as ints -/
theorem own_nn {i : Nat} (h : i < 2 ^ 31) : ¬ Int32.ofNat i < 0 := by
  rw [Int32.lt_iff_toInt_lt, toInt_of rfl h]
  have : (0 : Int32).toInt = 0 := rfl
  omega
theorem own_lt {i j : Nat} (hi : i < 2 ^ 31) (hj : j < 2 ^ 31) : Int32.ofNat i < Int32.ofNat j ↔ i < j := by
  rw [Int32.lt_iff_toInt_lt, toInt_of rfl hi, toInt_of rfl hj]; omega
theorem own_inj {i j : Nat} (hi : i < 2 ^ 31) (hj : j < 2 ^ 31) (h : Int32.ofNat i = Int32.ofNat j) : i = j := by
  have := congrArg Int32.toInt h
  rw [toInt_of rfl hi, toInt_of rfl hj] at this; omega
theorem own_below {j : Int32} {n : Nat} (hn : n < 2 ^ 31) (h1 : ¬ j < 0) (h2 : j < Int32.ofNat n) : j.toNatClampNeg < n := by
  rw [Int32.lt_iff_toInt_lt, toInt_of rfl hn, nat_of h1] at h2; omega
theorem own_clamp {j : Int32} {i : Nat} (hj : ¬ j < 0) (hi : i < 2 ^ 31) : j = Int32.ofNat i ↔ j.toNatClampNeg = i := by
  constructor
  · rintro rfl; exact clamp_of rfl hi
  · intro q
    apply Int32.toInt_inj.mp
    rw [toInt_of rfl hi, nat_of hj, q]
theorem own_shl {i : Nat} (h : i < 1000) : Int32.ofNat i <<< ((1 : Int32) &&& 31) = Int32.ofNat (2 * i) := by
  have q := c_ishl (Int32.ofNat i) 1 1 (by decide)
  have r := rng32 (Int32.ofNat i <<< ((1 : Int32) &&& 31))
  apply Int32.toInt_inj.mp
  rw [toInt_of rfl (by omega)] at q ⊢
  omega
theorem own_shr {i : Nat} (h : i < 1000) : Int32.ofNat (2 * i) >>> ((1 : Int32) &&& 31) = Int32.ofNat i := by
  have q := c_ishr (Int32.ofNat (2 * i)) 1 1 (by decide)
  apply Int32.toInt_inj.mp
  rw [q, toInt_of rfl (by omega), toInt_of rfl (by omega)]
  omega
/-! signs -/
def Sg (c : Nat → Int32) : Prop := ∀ j, 0 ≤ (c j).toInt ∧ (c j).toInt < 65536
def charsF (c : Nat → Int32) : Int32 → Value := fun j => .int (c j.toNatClampNeg)
/-- the two bytes of a sign -/
def own_b0 (x : Int32) : Int32 := (x >>> ((0 : Int32) &&& 31)).toInt8.toInt32
def own_b1 (x : Int32) : Int32 := (x >>> ((8 : Int32) &&& 31)).toInt8.toInt32
def u16F (c : Nat → Int32) : Int32 → Value := fun j => .int (if j.toNatClampNeg % 2 = 0 then own_b0 (c (j.toNatClampNeg / 2)) else own_b1 (c (j.toNatClampNeg / 2)))
theorem own_rc (c : Nat → Int32) {i : Nat} (h : i < 2 ^ 31) : charsF c (Int32.ofNat i) = .int (c i) := by
  unfold charsF; rw [clamp_of rfl h]
theorem own_r0 (c : Nat → Int32) {i : Nat} (h : i < 1000) : u16F c (Int32.ofNat (2 * i)) = .int (own_b0 (c i)) := by
  unfold u16F; rw [clamp_of rfl (by omega), if_pos (by omega), show 2 * i / 2 = i by omega]
theorem own_r1 (c : Nat → Int32) {i : Nat} (h : i < 1000) : u16F c (Int32.ofNat (2 * i + 1)) = .int (own_b1 (c i)) := by
  unfold u16F; rw [clamp_of rfl (by omega), if_neg (by omega), show (2 * i + 1) / 2 = i by omega]
theorem own_bb (x : Int32) : x.toInt8.toInt32.toInt8.toInt32 = x.toInt8.toInt32 := by rw [Int8.toInt8_toInt32]
theorem own_nb (x : Int32) : narrow .byte (.int x.toInt8.toInt32) = .int x.toInt8.toInt32 := by
  show Value.int x.toInt8.toInt32.toInt8.toInt32 = _
  rw [own_bb]
theorem own_ic {x : Int32} (h : 0 ≤ x.toInt ∧ x.toInt < 65536) : x.toUInt32.toUInt16.toUInt32.toInt32 = x := by
  have := c_i2c x
  apply Int32.toInt_inj.mp; omega
theorem own_icr (x : Int32) : 0 ≤ (x.toUInt32.toUInt16.toUInt32.toInt32).toInt ∧ (x.toUInt32.toUInt16.toUInt32.toInt32).toInt < 65536 := (c_i2c x).2
theorem own_nc {x : Int32} (h : 0 ≤ x.toInt ∧ x.toInt < 65536) : narrow .char (.int x) = .int x := by
  show Value.int x.toUInt32.toUInt16.toUInt32.toInt32 = _
  rw [own_ic h]
theorem own_join {x : Int32} (h : 0 ≤ x.toInt ∧ x.toInt < 65536) : (((own_b0 x &&& 255) <<< ((0 : Int32) &&& 31)) ||| ((own_b1 x &&& 255) <<< ((8 : Int32) &&& 31))).toUInt32.toUInt16.toUInt32.toInt32 = x := by
  have a1 := c_ishr x 0 0 (by decide)
  have a2 := c_ishr x 8 8 (by decide)
  have b1 := c_i2b (x >>> ((0 : Int32) &&& 31))
  have b2 := c_i2b (x >>> ((8 : Int32) &&& 31))
  have m1 := c_mask (own_b0 x) 255 8 (by decide) (by decide)
  have m2 := c_mask (own_b1 x) 255 8 (by decide) (by decide)
  have s1 := c_ishl (own_b0 x &&& 255) 0 0 (by decide)
  have s2 := c_ishl (own_b1 x &&& 255) 8 8 (by decide)
  have r1 := rng32 ((own_b0 x &&& 255) <<< ((0 : Int32) &&& 31))
  have r2 := rng32 ((own_b1 x &&& 255) <<< ((8 : Int32) &&& 31))
  have e0 : (own_b0 x).toInt = ((x >>> ((0 : Int32) &&& 31)).toInt8.toInt32).toInt := rfl
  have e1 : (own_b1 x).toInt = ((x >>> ((8 : Int32) &&& 31)).toInt8.toInt32).toInt := rfl
  have o1 := c_or' ((own_b0 x &&& 255) <<< ((0 : Int32) &&& 31)) ((own_b1 x &&& 255) <<< ((8 : Int32) &&& 31)) 8 (by decide) 256 (by decide) (by omega) (by omega) (by omega)
  have r3 := rng32 (((own_b0 x &&& 255) <<< ((0 : Int32) &&& 31)) ||| ((own_b1 x &&& 255) <<< ((8 : Int32) &&& 31)))
  have v := c_i2c (((own_b0 x &&& 255) <<< ((0 : Int32) &&& 31)) ||| ((own_b1 x &&& 255) <<< ((8 : Int32) &&& 31)))
  apply Int32.toInt_inj.mp
  omega
def own_imax (x y : Int32) : Int32 := if x < y then y else x
def own_imin (x y : Int32) : Int32 := if y < x then y else x
theorem own_x1 {x y : Int32} (h : x < y) : own_imax x y = y := if_pos h
theorem own_x0 {x y : Int32} (h : ¬ x < y) : own_imax x y = x := if_neg h
theorem own_n1 {x y : Int32} (h : y < x) : own_imin x y = y := if_pos h
theorem own_n0 {x y : Int32} (h : ¬ y < x) : own_imin x y = x := if_neg h
theorem own_nxx (x : Int32) : own_imin x x = x := by unfold own_imin; split <;> rfl
def own_b (k : Int32) : Int32 := if k = 0 then 1 else 0
def own_cd (n N : Int32) : Int32 := ((n - N).toUInt32 >>> ((31 : Int32) &&& 31).toUInt32).toInt32.toInt8.toInt32
theorem own_cd0 {n : Nat} (h : n ≤ 4) : own_cd (Int32.ofNat n) (Int32.ofNat n) = 0 := by
  rcases (show n = 0 ∨ n = 1 ∨ n = 2 ∨ n = 3 ∨ n = 4 by omega) with rfl | rfl | rfl | rfl | rfl <;> decide
theorem own_cd1 {n : Nat} (h0 : 0 < n) (h : n ≤ 4) : own_cd (Int32.ofNat n) (Int32.ofNat (2 * n)) = 1 := by
  rcases (show n = 1 ∨ n = 2 ∨ n = 3 ∨ n = 4 by omega) with rfl | rfl | rfl | rfl <;> decide
/-- what a search for U+FFFD comes to -/
def Res (n : Nat) (c : Nat → Int32) (z : Int32) : Prop := (¬ z < 0 ∧ ∃ i, i < n ∧ c i = 65533) ∨ (z < 0 ∧ ∀ i, i < n → c i ≠ 65533)
/-- a String of n signs c, as far as the search sees it -/
def Str (Z : State) (h : Heap) (t : Addr) (n : Nat) (c : Nat → Int32) : Prop := Exa Z h t "java/lang/String" ∧ ∃ b, Fld Z h t "java/lang/String" "value" "[B" (.ref b) ∧
  ((Fld Z h t "java/lang/String" "coder" "B" (.int 0) ∧ (∃ N f, Ia Z h b .byte N f) ∧ ∀ i, i < n → c i ≠ 65533) ∨ (Fld Z h t "java/lang/String" "coder" "B" (.int 1) ∧ 0 < n ∧ Ia Z h b .byte (Int32.ofNat (2 * n)) (u16F c)))
theorem own_low {n : Nat} {c : Nat → Int32} (h : ∀ i, i < n → ¬ 255 < c i) : ∀ i, i < n → c i ≠ 65533 := fun i hi e => h i hi (by rw [e]; decide)
/-! the making half -/
def own_put (f : Int32 → Value) (i : Nat) (x : Int32) : Int32 → Value := fun k => if k = Int32.ofNat (2 * i + 1) then .int (own_b1 x) else if k = Int32.ofNat (2 * i) then .int (own_b0 x) else f k
def own_part (c : Nat → Int32) (i : Nat) : Int32 → Value := fun k => if k.toNatClampNeg < 2 * i then u16F c k else .int 0
theorem own_put_eq (f : Int32 → Value) (i : Nat) (x : Int32) {N : Int32} (j : Int32) (h1 : ¬ j < 0) (h2 : j < N) : (if j = Int32.ofNat (2 * i + 1) then Value.int (x >>> ((8 : Int32) &&& 31)).toInt8.toInt32.toInt8.toInt32 else (fun k => if k = Int32.ofNat (2 * i) then Value.int (x >>> ((0 : Int32) &&& 31)).toInt8.toInt32.toInt8.toInt32 else f k) j) = own_put f i x j := by
  rw [own_bb]
  show (if j = Int32.ofNat (2 * i + 1) then Value.int (x >>> ((8 : Int32) &&& 31)).toInt8.toInt32 else (if j = Int32.ofNat (2 * i) then Value.int (x >>> ((0 : Int32) &&& 31)).toInt8.toInt32.toInt8.toInt32 else f j)) = _
  rw [own_bb]; rfl
theorem own_part_step (c : Nat → Int32) {i : Nat} (hi : i < 1000) {N : Int32} (j : Int32) (h1 : ¬ j < 0) (h2 : j < N) : own_put (own_part c i) i (c i) j = own_part c (i + 1) j := by
  unfold own_put
  by_cases u : j = Int32.ofNat (2 * i + 1)
  · have v := (own_clamp h1 (by omega)).mp u
    rw [if_pos u]; unfold own_part; rw [if_pos (by omega), u, own_r1 c hi]
  · rw [if_neg u]
    have v : ¬ j.toNatClampNeg = 2 * i + 1 := fun q => u ((own_clamp h1 (by omega)).mpr q)
    by_cases u' : j = Int32.ofNat (2 * i)
    · have v' := (own_clamp h1 (by omega)).mp u'
      rw [if_pos u']; unfold own_part; rw [if_pos (by omega), u', own_r0 c hi]
    · have v' : ¬ j.toNatClampNeg = 2 * i := fun q => u' ((own_clamp h1 (by omega)).mpr q)
      rw [if_neg u']; unfold own_part
      by_cases w : j.toNatClampNeg < 2 * i
      · rw [if_pos w, if_pos (by omega)]
      · rw [if_neg w, if_neg (by omega)]
theorem own_part_all (c : Nat → Int32) {n : Nat} (hn : n < 1000) (j : Int32) (h1 : ¬ j < 0) (h2 : j < Int32.ofNat (2 * n)) : own_part c n j = u16F c j := if_pos (own_below (by omega) h1 h2)
theorem own_part_zero (c : Nat → Int32) (j : Int32) : Value.int 0 = own_part c 0 j := (if_neg (by omega)).symm
def own_c (c0 c1 c2 c3 : Int32) : Nat → Int32 := fun j => if j = 0 then c0 else if j = 1 then c1 else if j = 2 then c2 else c3
theorem own_csg {c0 c1 c2 c3 : Int32} (h0 : 0 ≤ c0.toInt ∧ c0.toInt < 65536) (h1 : 0 ≤ c1.toInt ∧ c1.toInt < 65536) (h2 : 0 ≤ c2.toInt ∧ c2.toInt < 65536) (h3 : 0 ≤ c3.toInt ∧ c3.toInt < 65536) : Sg (own_c c0 c1 c2 c3) := fun j => by
  unfold own_c
  repeat' split
  all_goals assumption
theorem own_four {j : Int32} (h1 : ¬ j < 0) (h2 : j < 4) : j = 0 ∨ j = 1 ∨ j = 2 ∨ j = 3 := by
  have e0 : (0 : Int32).toInt = 0 := rfl
  have e1 : (1 : Int32).toInt = 1 := rfl
  have e2 : (2 : Int32).toInt = 2 := rfl
  have e3 : (3 : Int32).toInt = 3 := rfl
  have e4 : (4 : Int32).toInt = 4 := rfl
  rw [Int32.lt_iff_toInt_lt] at h1 h2
  simp only [← Int32.toInt_inj]
  omega
def own_ch (x : Int32) : Int32 := if (x.toUInt32 >>> ((16 : Int32) &&& 31).toUInt32).toInt32 &&& 3 = 0 then 65533 else if (x.toUInt32 >>> ((16 : Int32) &&& 31).toUInt32).toInt32 &&& 3 = 1 then (65532 + ((x.toUInt32 >>> ((8 : Int32) &&& 31).toUInt32).toInt32 &&& 3)).toUInt32.toUInt16.toUInt32.toInt32 else x.toUInt32.toUInt16.toUInt32.toInt32
theorem own_chr (x : Int32) : 0 ≤ (own_ch x).toInt ∧ (own_ch x).toInt < 65536 := by
  unfold own_ch
  split
  · exact ⟨by decide, by decide⟩
  · split
    · exact own_icr _
    · exact own_icr _
theorem own_rem (x : Int32) (k : Int32) (K : Nat) (hk : k.toInt = K + 1) (hk2 : K < 2 ^ 31) : ∃ n : Nat, (x &&& 2147483647) % k = Int32.ofNat n ∧ n ≤ K := by
  have h1 := c_mask x 2147483647 31 (by decide) (by decide)
  have h2 := (c_irem (x &&& 2147483647) k _ hk).1 (by omega)
  have h3 := Int.emod_nonneg (x &&& 2147483647).toInt (show ((K : Int) + 1) ≠ 0 by omega)
  have h4 := Int.emod_lt_of_pos (x &&& 2147483647).toInt (show 0 < ((K : Int) + 1) by omega)
  refine ⟨((x &&& 2147483647) % k).toInt.toNat, ?_, by omega⟩
  apply Int32.toInt_inj.mp
  rw [toInt_of rfl (by omega)]
  omega
theorem own_final {n : Nat} {c : Nat → Int32} {z z' y : Int32} (h : z = 1 ∧ (∀ i, i < n → c i ≠ 65533) ∨ z = 0 ∧ ∃ i, i < n ∧ c i = 65533) (h' : z' = 1 ∧ (∃ i, i < n ∧ c i = 65533) ∨ z' = 0 ∧ ∀ i, i < n → c i ≠ 65533) (hy : y = (if z' = 0 then 1 else 0)) : z = y := by
  rcases h with ⟨rfl, h⟩ | ⟨rfl, i, hi, e⟩
  · rcases h' with ⟨-, i, hi, e⟩ | ⟨rfl, -⟩
    · exact absurd e (h i hi)
    · rw [hy, if_pos rfl]
  · rcases h' with ⟨rfl, -⟩ | ⟨-, h'⟩
    · rw [hy, if_neg (by decide)]
    · exact absurd e (h' i hi)
theorem own_arr {Z : State} {h : Heap} {a : Addr} {ty : FieldType} {N : Int32} {f : Int32 → Value} (F : Ia Z h a ty N f) : Arr Z h a (Classical.choose F) ty := (Classical.choose_spec F).1
theorem own_ext {Z : State} {h h' : Heap} (E : Ext Z.heap h) (K : Keep h h' []) : Ext Z.heap h' := ⟨Nat.le_trans E.1 K.1, fun x c q => K.2.1 x c (E.2 x c q) nin0⟩

set_option maxRecDepth 65536 in
set_option maxHeartbeats 40000000 in
theorem rmIL (l : Launch) (Z : State) (a0 : Array Value) (hw : ∀ d ∈ tables_1, d.before a0 Z = true) (a : Addr) (cs k : Int32) (h : Heap) (n0 : Nat) (P0 : Sta Z h "java/lang/String" "COMPACT_STRINGS" "Z" (.int cs)) (P1 : Fld Z h a "java/lang/String" "coder" "B" (.int k)) (P2 : ¬ cs = 0) : Con l Z ⟨"java/lang/String", "isLatin1", "()Z"⟩ jdk_42_method_154_code 1 (some .boolean) ({ frames := 0, cells := 0, slots := 0, locals := 0 } : Room) #[.ref a] h n0 (fun vr h' => vr = some (.int (own_b k)) ∧ h' = h) Vx := by
  refine Con.of pnIL (fun m_ => efIL m_ a) (fun E K => ?_)
  refine K.getS dIL_0 (wd51 hw) P0 ?_
  refine K.if_eq dIL_3 (fun u => absurd u P2) (fun _ => ?_)
  refine K.aloadN dIL_6 rfl rfl ?_
  refine K.getF dIL_7 (wd30 hw) P1 ?_
  refine K.if_ne dIL_10 (fun hc1 => ?_) (fun hc1 => ?_)
  · refine K.iconst (1 : Int32) dIL_13 rfl ?_
    refine K.goto dIL_14 ?_
    exact K.ireturn dIL_18 (Or.inr (Or.inl rfl)) rfl (by decide) (by decide) ⟨(by rw [own_b, if_pos hc1]), rfl⟩
  · refine K.iconst (0 : Int32) dIL_17 rfl ?_
    exact K.ireturn dIL_18 (Or.inr (Or.inl rfl)) rfl (by decide) (by decide) ⟨(by rw [own_b, if_neg hc1]), rfl⟩
set_option maxRecDepth 65536 in
set_option maxHeartbeats 40000000 in
theorem rmCO (l : Launch) (Z : State) (a0 : Array Value) (hw : ∀ d ∈ tables_1, d.before a0 Z = true) (a : Addr) (cs k : Int32) (h : Heap) (n0 : Nat) (P0 : Sta Z h "java/lang/String" "COMPACT_STRINGS" "Z" (.int cs)) (P1 : Fld Z h a "java/lang/String" "coder" "B" (.int k)) (P2 : ¬ cs = 0) (P3 : narrow .byte (.int k) = .int k) : Con l Z ⟨"java/lang/String", "coder", "()B"⟩ jdk_42_method_152_code 1 (some .byte) ({ frames := 0, cells := 0, slots := 0, locals := 0 } : Room) #[.ref a] h n0 (fun vr h' => vr = some (.int k) ∧ h' = h) Vx := by
  refine Con.of pnCO (fun m_ => efCO m_ a) (fun E K => ?_)
  refine K.getS dCO_0 (wd51 hw) P0 ?_
  refine K.if_eq dCO_3 (fun u => absurd u P2) (fun _ => ?_)
  refine K.aloadN dCO_6 rfl rfl ?_
  refine K.getF dCO_7 (wd30 hw) P1 ?_
  refine K.goto dCO_10 ?_
  exact K.ireturn dCO_14 (Or.inr (Or.inr (Or.inl rfl))) P3 (by decide) (by decide) ⟨rfl, rfl⟩
set_option maxRecDepth 65536 in
set_option maxHeartbeats 40000000 in
theorem rmLE (l : Launch) (Z : State) (a0 : Array Value) (hw : ∀ d ∈ tables_1, d.before a0 Z = true) (a b : Addr) (cs k N : Int32) (f : Int32 → Value) (h : Heap) (n0 : Nat) (P0 : Exa Z h a "java/lang/String") (P1 : Sta Z h "java/lang/String" "COMPACT_STRINGS" "Z" (.int cs)) (P2 : Fld Z h a "java/lang/String" "coder" "B" (.int k)) (P3 : Fld Z h a "java/lang/String" "value" "[B" (.ref b)) (P4 : ¬ cs = 0) (P5 : narrow .byte (.int k) = .int k) (P6 : Ia Z h b .byte N f) : Con l Z ⟨"java/lang/String", "length", "()I"⟩ jdk_42_method_54_code 1 (some .int) ({ frames := 1, cells := 0, slots := 0, locals := 13 } : Room) #[.ref a] h n0 (fun vr h' => vr = some (.int (N >>> (k &&& 31))) ∧ h' = h) Vx := by
  refine Con.of pnLE (fun m_ => efLE m_ a) (fun E K => ?_)
  have hcs := P4
  have hnk := P5
  refine K.aloadN dLE_0 rfl rfl ?_
  refine K.getF dLE_1 (wd29 hw) P3 ?_
  refine K.arraylength dLE_4 P6 ?_
  refine K.aloadN dLE_5 rfl rfl ?_
  refine K.callV (a := a) [] [.int N] 1 0 0 dLE_6 (wd57 hw) (wd58 hw) (wd60 hw) (wd59 hw) (wd11 hw) (wd61 hw) (by decide) (rmCO l Z a0 hw a cs k h n0 P1 P2 hcs hnk) P0 rfl (lenOf pd_1 rfl) rfl (Nat.le_of_eq rfl) (by decide) (by decide) rfl rfl (by decide) (by decide) (goP ?_)
  refine K.ishr dLE_9 ?_
  exact K.ireturn dLE_10 (Or.inl rfl) rfl (by decide) (by decide) ⟨rfl, rfl⟩
set_option maxRecDepth 65536 in
set_option maxHeartbeats 40000000 in
theorem rmCE (l : Launch) (Z : State) (a0 : Array Value) (hw : ∀ d ∈ tables_1, d.before a0 Z = true)  (h : Heap) (n0 : Nat)  : Con l Z ⟨"java/lang/StringLatin1", "canEncode", "(I)Z"⟩ jdk_43_method_4_code 1 (some .boolean) ({ frames := 0, cells := 0, slots := 0, locals := 0 } : Room) #[.int (65533 : Int32)] h n0 (fun vr h' => vr = some (.int (0 : Int32)) ∧ h' = h) Vx := by
  refine Con.of pnCE (fun m_ => efCE m_ (65533 : Int32)) (fun E K => ?_)
  refine K.iloadN dCE_0 rfl ?_
  refine K.if_lt dCE_1 (fun u => absurd u (by decide)) (fun _ => ?_)
  refine K.iloadN dCE_4 rfl ?_
  refine K.sipush (255 : Int32) dCE_5 rfl ?_
  refine K.ic_gt dCE_8 (fun _ => ?_) (fun u => absurd (by decide) u)
  refine K.iconst (0 : Int32) dCE_15 rfl ?_
  exact K.ireturn dCE_16 (Or.inr (Or.inl rfl)) rfl (by decide) (by decide) ⟨rfl, rfl⟩
set_option maxRecDepth 65536 in
set_option maxHeartbeats 40000000 in
theorem rmLI (l : Launch) (Z : State) (a0 : Array Value) (hw : ∀ d ∈ tables_1, d.before a0 Z = true) (b : Addr) (x y : Int32) (h : Heap) (n0 : Nat)  : Con l Z ⟨"java/lang/StringLatin1", "indexOf", "([BIII)I"⟩ jdk_43_method_22_code 4 (some .int) ({ frames := 1, cells := 0, slots := 0, locals := 12 } : Room) #[.ref b, .int (65533 : Int32), .int x, .int y] h n0 (fun vr h' => vr = some (.int (-1 : Int32)) ∧ h' = h) Vx := by
  refine Con.of pnLI (fun m_ => efLI m_ b (65533 : Int32) x y) (fun E K => ?_)
  refine K.iloadN dLI_0 rfl ?_
  refine K.callS [.int (65533 : Int32)] [] 0 0 0 dLI_1 (wd66 hw) (wd67 hw) (wd64 hw) (wd68 hw) (by decide) (rmCE l Z a0 hw h n0) rfl (lenOf pd_2 rfl) rfl (Nat.le_of_eq rfl) (by decide) (by decide) rfl rfl (by decide) (by decide) (goP ?_)
  refine K.if_ne dLI_4 (fun _ => ?_) (fun u => absurd rfl u)
  refine K.iconst (-1 : Int32) dLI_7 rfl ?_
  exact K.ireturn dLI_8 (Or.inl rfl) rfl (by decide) (by decide) ⟨rfl, rfl⟩
set_option maxRecDepth 65536 in
set_option maxHeartbeats 40000000 in
theorem rmMX (l : Launch) (Z : State) (a0 : Array Value) (hw : ∀ d ∈ tables_1, d.before a0 Z = true) (x y : Int32) (h : Heap) (n0 : Nat)  : Con l Z ⟨"java/lang/Math", "max", "(II)I"⟩ jdk_29_method_65_code 2 (some .int) ({ frames := 0, cells := 0, slots := 0, locals := 0 } : Room) #[.int x, .int y] h n0 (fun vr h' => vr = some (.int (own_imax x y)) ∧ h' = h) Vx := by
  refine Con.of pnMX (fun m_ => efMX m_ x y) (fun E K => ?_)
  refine K.iloadN dMX_0 rfl ?_
  refine K.iloadN dMX_1 rfl ?_
  refine K.ic_lt dMX_2 (fun hc1 => ?_) (fun hc1 => ?_)
  · refine K.iloadN dMX_9 rfl ?_
    exact K.ireturn dMX_10 (Or.inl rfl) rfl (by decide) (by decide) ⟨by rw [own_x1 hc1], rfl⟩
  · refine K.iloadN dMX_5 rfl ?_
    refine K.goto dMX_6 ?_
    exact K.ireturn dMX_10 (Or.inl rfl) rfl (by decide) (by decide) ⟨by rw [own_x0 hc1], rfl⟩
set_option maxRecDepth 65536 in
set_option maxHeartbeats 40000000 in
theorem rmMN (l : Launch) (Z : State) (a0 : Array Value) (hw : ∀ d ∈ tables_1, d.before a0 Z = true) (x y : Int32) (h : Heap) (n0 : Nat)  : Con l Z ⟨"java/lang/Math", "min", "(II)I"⟩ jdk_29_method_69_code 2 (some .int) ({ frames := 0, cells := 0, slots := 0, locals := 0 } : Room) #[.int x, .int y] h n0 (fun vr h' => vr = some (.int (own_imin x y)) ∧ h' = h) Vx := by
  refine Con.of pnMN (fun m_ => efMN m_ x y) (fun E K => ?_)
  refine K.iloadN dMN_0 rfl ?_
  refine K.iloadN dMN_1 rfl ?_
  refine K.ic_gt dMN_2 (fun hc1 => ?_) (fun hc1 => ?_)
  · refine K.iloadN dMN_9 rfl ?_
    exact K.ireturn dMN_10 (Or.inl rfl) rfl (by decide) (by decide) ⟨by rw [own_n1 hc1], rfl⟩
  · refine K.iloadN dMN_5 rfl ?_
    refine K.goto dMN_6 ?_
    exact K.ireturn dMN_10 (Or.inl rfl) rfl (by decide) (by decide) ⟨by rw [own_n0 hc1], rfl⟩
set_option maxRecDepth 65536 in
set_option maxHeartbeats 40000000 in
theorem rmUL (l : Launch) (Z : State) (a0 : Array Value) (hw : ∀ d ∈ tables_1, d.before a0 Z = true) (b : Addr) (N : Int32) (f : Int32 → Value) (h : Heap) (n0 : Nat) (P0 : Ia Z h b .byte N f) : Con l Z ⟨"java/lang/StringUTF16", "length", "([B)I"⟩ jdk_52_method_6_code 1 (some .int) ({ frames := 0, cells := 0, slots := 0, locals := 0 } : Room) #[.ref b] h n0 (fun vr h' => vr = some (.int (N >>> ((1 : Int32) &&& 31))) ∧ h' = h) Vx := by
  refine Con.of pnUL (fun m_ => efUL m_ b) (fun E K => ?_)
  refine K.aloadN dUL_0 rfl rfl ?_
  refine K.arraylength dUL_1 P0 ?_
  refine K.iconst (1 : Int32) dUL_2 rfl ?_
  refine K.ishr dUL_3 ?_
  exact K.ireturn dUL_4 (Or.inl rfl) rfl (by decide) (by decide) ⟨rfl, rfl⟩
set_option maxRecDepth 65536 in
set_option maxHeartbeats 40000000 in
theorem rmCF (l : Launch) (Z : State) (a0 : Array Value) (hw : ∀ d ∈ tables_1, d.before a0 Z = true) (x y z : Int32) (sf : Value) (hsf : sf.isRef = true) (h : Heap) (n0 : Nat) (P0 : ¬ x < 0) (P1 : ¬ y < x) (P2 : ¬ z < y) : Con l Z ⟨"jdk/internal/util/Preconditions", "checkFromToIndex", "(IIILjava/util/function/BiFunction;)I"⟩ jdk_41_method_12_code 4 (some .int) ({ frames := 0, cells := 0, slots := 0, locals := 0 } : Room) #[.int x, .int y, .int z, sf] h n0 (fun vr h' => vr = some (.int x) ∧ h' = h) Vx := by
  refine Con.of pnCF (fun m_ => efCF m_ x y z sf hsf) (fun E K => ?_)
  refine K.iloadN dCF_0 rfl ?_
  refine K.if_lt dCF_1 (fun u => absurd u P0) (fun _ => ?_)
  refine K.iloadN dCF_4 rfl ?_
  refine K.iloadN dCF_5 rfl ?_
  refine K.ic_gt dCF_6 (fun u => absurd u P1) (fun _ => ?_)
  refine K.iloadN dCF_9 rfl ?_
  refine K.iloadN dCF_10 rfl ?_
  refine K.ic_le dCF_11 (fun u => absurd u P2) (fun _ => ?_)
  refine K.iloadN dCF_22 rfl ?_
  exact K.ireturn dCF_23 (Or.inl rfl) rfl (by decide) (by decide) ⟨rfl, rfl⟩
set_option maxRecDepth 65536 in
set_option maxHeartbeats 40000000 in
theorem rmCB (l : Launch) (Z : State) (a0 : Array Value) (hw : ∀ d ∈ tables_1, d.before a0 Z = true) (x y z : Int32) (sf : Value) (hsf : sf.isRef = true) (h : Heap) (n0 : Nat) (P0 : Sta Z h "jdk/internal/util/Preconditions" "SIOOBE_FORMATTER" "Ljava/util/function/BiFunction;" sf) (P1 : ¬ x < 0) (P2 : ¬ y < x) (P3 : ¬ z < y) : Con l Z ⟨"java/lang/String", "checkBoundsBeginEnd", "(III)V"⟩ jdk_42_method_158_code 3 none ({ frames := 1, cells := 0, slots := 0, locals := 15 } : Room) #[.int x, .int y, .int z] h n0 (fun vr h' => vr = none ∧ h' = h) Vx := by
  refine Con.of pnCB (fun m_ => efCB m_ x y z) (fun E K => ?_)
  have hx0 := P1
  have hyx := P2
  have hzy := P3
  refine K.iloadN dCB_0 rfl ?_
  refine K.iloadN dCB_1 rfl ?_
  refine K.iloadN dCB_2 rfl ?_
  refine K.getS dCB_3 (wd121 hw) P0 ?_
  refine K.callS [.int x, .int y, .int z, sf] [] 0 0 0 dCB_6 (wd123 hw) (wd124 hw) (wd122 hw) (wd125 hw) (by decide) (rmCF l Z a0 hw x y z sf hsf h n0 hx0 hyx hzy) rfl (lenOf pd_3 rfl) rfl (Nat.le_of_eq rfl) (by decide) (by decide) rfl rfl (by decide) (by decide) (goP ?_)
  refine K.pop dCB_9 rfl ?_
  exact K.ret dCB_10 (by decide) (by decide) ⟨rfl, rfl⟩
set_option maxRecDepth 65536 in
set_option maxHeartbeats 40000000 in
theorem rmCU (l : Launch) (Z : State) (a0 : Array Value) (hw : ∀ d ∈ tables_1, d.before a0 Z = true) (x y : Int32) (b : Addr) (N : Int32) (f : Int32 → Value) (sf : Value) (hsf : sf.isRef = true) (h : Heap) (n0 : Nat) (P0 : Sta Z h "jdk/internal/util/Preconditions" "SIOOBE_FORMATTER" "Ljava/util/function/BiFunction;" sf) (P1 : Ia Z h b .byte N f) (P2 : ¬ x < 0) (P3 : ¬ y < x) (P4 : ¬ N >>> ((1 : Int32) &&& 31) < y) : Con l Z ⟨"java/lang/StringUTF16", "checkBoundsBeginEnd", "(II[B)V"⟩ jdk_52_method_93_code 3 none ({ frames := 2, cells := 0, slots := 0, locals := 29 } : Room) #[.int x, .int y, .ref b] h n0 (fun vr h' => vr = none ∧ h' = h) Vx := by
  refine Con.of pnCU (fun m_ => efCU m_ x y b) (fun E K => ?_)
  have hx0 := P2
  have hyx := P3
  have hzy := P4
  refine K.iloadN dCU_0 rfl ?_
  refine K.iloadN dCU_1 rfl ?_
  refine K.aloadN dCU_2 rfl rfl ?_
  refine K.callS [.ref b] [.int y, .int x] 2 0 0 dCU_3 (wd115 hw) (wd116 hw) (wd71 hw) (wd117 hw) (by decide) (rmUL l Z a0 hw b N f h n0 P1) rfl (lenOf pd_4 rfl) rfl (Nat.le_of_eq rfl) (by decide) (by decide) rfl rfl (by decide) (by decide) (goP ?_)
  refine K.callS [.int x, .int y, .int (N >>> ((1 : Int32) &&& 31))] [] 0 0 0 dCU_6 (wd118 hw) (wd119 hw) (wd11 hw) (wd120 hw) (by decide) (rmCB l Z a0 hw x y (N >>> ((1 : Int32) &&& 31)) sf hsf h n0 P0 hx0 hyx hzy) rfl (lenOf pd_5 rfl) rfl (Nat.le_of_eq rfl) (by decide) (by decide) rfl rfl (by decide) (by decide) (goN ?_)
  exact K.ret dCU_9 (by decide) (by decide) ⟨rfl, rfl⟩
set_option maxRecDepth 65536 in
set_option maxHeartbeats 40000000 in
theorem rmGC (l : Launch) (Z : State) (a0 : Array Value) (hw : ∀ d ∈ tables_1, d.before a0 Z = true) (b : Addr) (i n : Nat) (c : Nat → Int32) (h : Heap) (n0 : Nat) (PA : Sta Z h "java/lang/StringUTF16" "$assertionsDisabled" "Z" (.int (1 : Int32))) (PH : Sta Z h "java/lang/StringUTF16" "HI_BYTE_SHIFT" "I" (.int (0 : Int32))) (PL : Sta Z h "java/lang/StringUTF16" "LO_BYTE_SHIFT" "I" (.int (8 : Int32))) (PB : Ia Z h b .byte (Int32.ofNat (2 * n)) (u16F c)) (hi : i < n) (hn : n ≤ 4) (hc : Sg c) : Con l Z ⟨"java/lang/StringUTF16", "getChar", "([BI)C"⟩ jdk_52_method_5_code 2 (some .char) ({ frames := 0, cells := 0, slots := 0, locals := 0 } : Room) #[.ref b, .int (Int32.ofNat i)] h n0 (fun vr h' => vr = some (.int (c i)) ∧ h' = h) Vx := by
  refine Con.of pnGC (fun m_ => efGC m_ b (Int32.ofNat i)) (fun E K => ?_)
  refine K.getS dGC_0 (wd89 hw) PA ?_
  refine K.if_ne dGC_3 (fun u => absurd u (by decide)) (fun _ => ?_)
  refine K.iloadN dGC_28 rfl ?_
  refine K.iconst (1 : Int32) dGC_29 rfl ?_
  refine K.ishl dGC_30 ?_
  rw [own_shl (by omega)]
  refine K.istoreN #[.val (.ref b), .val (.int (Int32.ofNat (2 * i)))] dGC_31 rfl ?_
  refine K.aloadN dGC_32 rfl rfl ?_
  refine K.iloadN dGC_33 rfl ?_
  refine K.iinc (Int32.ofNat (2 * i + 1)) #[.val (.ref b), .val (.int (Int32.ofNat (2 * i + 1)))] dGC_34 rfl (inc_ofNat (2 * i)).symm rfl ?_
  refine K.baload (v := .int (own_b0 (c i))) dGC_37 PB (own_nn (by omega)) ((own_lt (by omega) (by omega)).mpr (by omega)) (own_r0 c (by omega)) ?_
  refine K.sipush (255 : Int32) dGC_38 rfl ?_
  refine K.iand dGC_41 ?_
  refine K.getS dGC_42 (wd90 hw) PH ?_
  refine K.ishl dGC_45 ?_
  refine K.aloadN dGC_46 rfl rfl ?_
  refine K.iloadN dGC_47 rfl ?_
  refine K.baload (v := .int (own_b1 (c i))) dGC_48 PB (own_nn (by omega)) ((own_lt (by omega) (by omega)).mpr (by omega)) (own_r1 c (by omega)) ?_
  refine K.sipush (255 : Int32) dGC_49 rfl ?_
  refine K.iand dGC_52 ?_
  refine K.getS dGC_53 (wd91 hw) PL ?_
  refine K.ishl dGC_56 ?_
  refine K.ior dGC_57 ?_
  refine K.i2c dGC_58 ?_
  exact K.ireturn dGC_59 (Or.inr (Or.inr (Or.inr (Or.inl rfl)))) (own_nc (own_icr _)) (by decide) (by decide) ⟨(by rw [own_join (hc i)]), rfl⟩
set_option maxRecDepth 65536 in
set_option maxHeartbeats 40000000 in
theorem rmIU (l : Launch) (Z : State) (a0 : Array Value) (hw : ∀ d ∈ tables_1, d.before a0 Z = true) (b : Addr) (n : Nat) (c : Nat → Int32) (h : Heap) (n0 : Nat) (PA : Sta Z h "java/lang/StringUTF16" "$assertionsDisabled" "Z" (.int (1 : Int32))) (PH : Sta Z h "java/lang/StringUTF16" "HI_BYTE_SHIFT" "I" (.int (0 : Int32))) (PL : Sta Z h "java/lang/StringUTF16" "LO_BYTE_SHIFT" "I" (.int (8 : Int32))) (PB : Ia Z h b .byte (Int32.ofNat (2 * n)) (u16F c)) (hn : n ≤ 4) (hc : Sg c) : Con l Z ⟨"java/lang/StringUTF16", "indexOfCharUnsafe", "([BIII)I"⟩ jdk_52_method_48_code 5 (some .int) ({ frames := 1, cells := 0, slots := 0, locals := 13 } : Room) #[.ref b, .int (65533 : Int32), .int (0 : Int32), .int (Int32.ofNat n)] h n0 (fun vr h' => ∃ z, vr = some (.int z) ∧ (h' = h ∧ Res n c z)) Vx := by
  refine Con.of pnIU (fun m_ => efIU m_ b (65533 : Int32) (0 : Int32) (Int32.ofNat n)) (fun E K => ?_)
  refine K.iloadN dIU_0 rfl ?_
  refine K.istore #[.val (.ref b), .val (.int (65533 : Int32)), .val (.int (0 : Int32)), .val (.int (Int32.ofNat n)), .val (.int (0 : Int32))] dIU_1 rfl ?_
  have LOOP : ∀ (d i : Nat), n ≤ i + d → i ≤ n → (∀ j, j < i → c j ≠ 65533) → Wk E h 0 0 3 #[.val (.ref b), .val (.int (65533 : Int32)), .val (.int (0 : Int32)), .val (.int (Int32.ofNat n)), .val (.int (Int32.ofNat i))] [] := by
    intro d
    induction d with
    | zero =>
      intro i hd hin hN
      refine K.iload dIU_3 rfl ?_
      refine K.iloadN dIU_5 rfl ?_
      refine K.ic_ge dIU_6 (fun u => absurd u (fun q => absurd ((own_lt (by omega) (by omega)).mp q) (by omega))) (fun _ => ?_)
      refine K.iconst (-1 : Int32) dIU_28 rfl ?_
      exact K.ireturn dIU_29 (Or.inl rfl) rfl (by decide) (by decide) ⟨_, rfl, rfl, Or.inr ⟨by decide, fun j hj => hN j (by omega)⟩⟩
    | succ d ih =>
      intro i hd hin hN
      by_cases hi : i < n
      · refine K.iload dIU_3 rfl ?_
        refine K.iloadN dIU_5 rfl ?_
        refine K.ic_ge dIU_6 (fun _ => ?_) (fun u => absurd ((own_lt (by omega) (by omega)).mpr hi) u)
        refine K.aloadN dIU_9 rfl rfl ?_
        refine K.iload dIU_10 rfl ?_
        refine K.callS [.ref b, .int (Int32.ofNat i)] [] 0 0 0 dIU_12 (wd92 hw) (wd93 hw) (wd71 hw) (wd94 hw) (by decide) (rmGC l Z a0 hw b i n c h n0 PA PH PL PB (by omega) hn hc) rfl (lenOf pd_6 rfl) rfl (Nat.le_of_eq rfl) (by decide) (by decide) rfl rfl (by decide) (by decide) (goP ?_)
        refine K.iloadN dIU_15 rfl ?_
        refine K.ic_ne dIU_16 (fun hc1 => ?_) (fun hc1 => ?_)
        · refine K.iload dIU_19 rfl ?_
          exact K.ireturn dIU_21 (Or.inl rfl) rfl (by decide) (by decide) ⟨_, rfl, rfl, Or.inl ⟨own_nn (by omega), i, hi, hc1⟩⟩
        · refine K.iinc (Int32.ofNat (i + 1)) #[.val (.ref b), .val (.int (65533 : Int32)), .val (.int (0 : Int32)), .val (.int (Int32.ofNat n)), .val (.int (Int32.ofNat (i + 1)))] dIU_22 rfl (inc_ofNat i).symm rfl ?_
          refine K.goto dIU_25 ?_
          exact ih (i + 1) (by omega) (by omega) (fun j hj => by rcases Nat.lt_succ_iff_lt_or_eq.mp hj with q | rfl; exact hN j q; exact hc1)
      · refine K.iload dIU_3 rfl ?_
        refine K.iloadN dIU_5 rfl ?_
        refine K.ic_ge dIU_6 (fun u => absurd u (fun q => absurd ((own_lt (by omega) (by omega)).mp q) (by omega))) (fun _ => ?_)
        refine K.iconst (-1 : Int32) dIU_28 rfl ?_
        exact K.ireturn dIU_29 (Or.inl rfl) rfl (by decide) (by decide) ⟨_, rfl, rfl, Or.inr ⟨by decide, fun j hj => hN j (by omega)⟩⟩
  exact LOOP n 0 (by omega) (by omega) (fun j hj => absurd hj (by omega))
set_option maxRecDepth 65536 in
set_option maxHeartbeats 40000000 in
theorem rmIC (l : Launch) (Z : State) (a0 : Array Value) (hw : ∀ d ∈ tables_1, d.before a0 Z = true) (b : Addr) (n : Nat) (c : Nat → Int32) (sf : Value) (hsf : sf.isRef = true) (h : Heap) (n0 : Nat) (PA : Sta Z h "java/lang/StringUTF16" "$assertionsDisabled" "Z" (.int (1 : Int32))) (PH : Sta Z h "java/lang/StringUTF16" "HI_BYTE_SHIFT" "I" (.int (0 : Int32))) (PL : Sta Z h "java/lang/StringUTF16" "LO_BYTE_SHIFT" "I" (.int (8 : Int32))) (PB : Ia Z h b .byte (Int32.ofNat (2 * n)) (u16F c)) (PF : Sta Z h "jdk/internal/util/Preconditions" "SIOOBE_FORMATTER" "Ljava/util/function/BiFunction;" sf) (hn : n ≤ 4) (hc : Sg c) : Con l Z ⟨"java/lang/StringUTF16", "indexOfChar", "([BIII)I"⟩ jdk_52_method_47_code 4 (some .int) ({ frames := 3, cells := 0, slots := 0, locals := 43 } : Room) #[.ref b, .int (65533 : Int32), .int (0 : Int32), .int (Int32.ofNat n)] h n0 (fun vr h' => ∃ z, vr = some (.int z) ∧ (h' = h ∧ Res n c z)) Vx := by
  refine Con.of pnIC (fun m_ => efIC m_ b (65533 : Int32) (0 : Int32) (Int32.ofNat n)) (fun E K => ?_)
  have hx0 : ¬ (0 : Int32) < 0 := by decide
  have hyx : ¬ Int32.ofNat n < 0 := own_nn (by omega)
  have hzy : ¬ Int32.ofNat (2 * n) >>> ((1 : Int32) &&& 31) < Int32.ofNat n := by rw [own_shr (by omega)]; exact fun q => absurd ((own_lt (by omega) (by omega)).mp q) (by omega)
  refine K.iloadN dIC_0 rfl ?_
  refine K.iloadN dIC_1 rfl ?_
  refine K.aloadN dIC_2 rfl rfl ?_
  refine K.callS [.int (0 : Int32), .int (Int32.ofNat n), .ref b] [] 0 0 0 dIC_3 (wd112 hw) (wd113 hw) (wd71 hw) (wd114 hw) (by decide) (rmCU l Z a0 hw (0 : Int32) (Int32.ofNat n) b (Int32.ofNat (2 * n)) (u16F c) sf hsf h n0 PF PB hx0 hyx hzy) rfl (lenOf pd_7 rfl) rfl (Nat.le_of_eq rfl) (by decide) (by decide) rfl rfl (by decide) (by decide) (goN ?_)
  refine K.aloadN dIC_6 rfl rfl ?_
  refine K.iloadN dIC_7 rfl ?_
  refine K.iloadN dIC_8 rfl ?_
  refine K.iloadN dIC_9 rfl ?_
  refine K.callS [.ref b, .int (65533 : Int32), .int (0 : Int32), .int (Int32.ofNat n)] [] 0 0 0 dIC_10 (wd126 hw) (wd127 hw) (wd71 hw) (wd128 hw) (by decide) (rmIU l Z a0 hw b n c h n0 PA PH PL PB hn hc) rfl (lenOf pd_8 rfl) rfl (Nat.le_of_eq rfl) (by decide) (by decide) rfl rfl (by decide) (by decide) (goIs fun z1 q2 => ?_)
  exact K.ireturn dIC_13 (Or.inl rfl) rfl (by decide) (by decide) ⟨_, rfl, rfl, q2⟩
set_option maxRecDepth 65536 in
set_option maxHeartbeats 40000000 in
theorem rmIX (l : Launch) (Z : State) (a0 : Array Value) (hw : ∀ d ∈ tables_1, d.before a0 Z = true) (b : Addr) (n : Nat) (c : Nat → Int32) (sf : Value) (hsf : sf.isRef = true) (h : Heap) (n0 : Nat) (PA : Sta Z h "java/lang/StringUTF16" "$assertionsDisabled" "Z" (.int (1 : Int32))) (PH : Sta Z h "java/lang/StringUTF16" "HI_BYTE_SHIFT" "I" (.int (0 : Int32))) (PL : Sta Z h "java/lang/StringUTF16" "LO_BYTE_SHIFT" "I" (.int (8 : Int32))) (PB : Ia Z h b .byte (Int32.ofNat (2 * n)) (u16F c)) (PF : Sta Z h "jdk/internal/util/Preconditions" "SIOOBE_FORMATTER" "Ljava/util/function/BiFunction;" sf) (hn : n ≤ 4) (hc : Sg c) (hpos : 0 < n) : Con l Z ⟨"java/lang/StringUTF16", "indexOf", "([BIII)I"⟩ jdk_52_method_40_code 4 (some .int) ({ frames := 4, cells := 0, slots := 0, locals := 58 } : Room) #[.ref b, .int (65533 : Int32), .int (0 : Int32), .int (Int32.ofNat n)] h n0 (fun vr h' => ∃ z, vr = some (.int z) ∧ (h' = h ∧ Res n c z)) Vx := by
  refine Con.of pnIX (fun m_ => efIX m_ b (65533 : Int32) (0 : Int32) (Int32.ofNat n)) (fun E K => ?_)
  refine K.iloadN dIX_0 rfl ?_
  refine K.iconst (0 : Int32) dIX_1 rfl ?_
  refine K.callS [.int (0 : Int32), .int (0 : Int32)] [] 0 0 0 dIX_2 (wd101 hw) (wd102 hw) (wd103 hw) (wd104 hw) (by decide) (rmMX l Z a0 hw (0 : Int32) (0 : Int32) h n0) rfl (lenOf pd_9 rfl) rfl (Nat.le_of_eq rfl) (by decide) (by decide) rfl rfl (by decide) (by decide) (goP ?_)
  rw [show own_imax 0 0 = 0 from rfl]
  refine K.istoreN #[.val (.ref b), .val (.int (65533 : Int32)), .val (.int (0 : Int32)), .val (.int (Int32.ofNat n))] dIX_5 rfl ?_
  refine K.iloadN dIX_6 rfl ?_
  refine K.aloadN dIX_7 rfl rfl ?_
  refine K.arraylength dIX_8 PB ?_
  refine K.iconst (1 : Int32) dIX_9 rfl ?_
  refine K.ishr dIX_10 ?_
  refine K.callS [.int (Int32.ofNat n), .int ((Int32.ofNat (2 * n)) >>> ((1 : Int32) &&& 31))] [] 0 0 0 dIX_11 (wd105 hw) (wd106 hw) (wd103 hw) (wd107 hw) (by decide) (rmMN l Z a0 hw (Int32.ofNat n) ((Int32.ofNat (2 * n)) >>> ((1 : Int32) &&& 31)) h n0) rfl (lenOf pd_9 rfl) rfl (Nat.le_of_eq rfl) (by decide) (by decide) rfl rfl (by decide) (by decide) (goP ?_)
  rw [own_shr (by omega), own_nxx]
  refine K.istoreN #[.val (.ref b), .val (.int (65533 : Int32)), .val (.int (0 : Int32)), .val (.int (Int32.ofNat n))] dIX_14 rfl ?_
  refine K.iloadN dIX_15 rfl ?_
  refine K.iloadN dIX_16 rfl ?_
  refine K.ic_lt dIX_17 (fun _ => ?_) (fun u => absurd ((own_lt (i := 0) (by decide) (by omega)).mpr hpos) u)
  refine K.iloadN dIX_22 rfl ?_
  refine K.ldcI dIX_23 (wd108 hw) ?_
  refine K.ic_ge dIX_25 (fun _ => ?_) (fun u => absurd (by decide) u)
  refine K.aloadN dIX_28 rfl rfl ?_
  refine K.iloadN dIX_29 rfl ?_
  refine K.iloadN dIX_30 rfl ?_
  refine K.iloadN dIX_31 rfl ?_
  refine K.callS [.ref b, .int (65533 : Int32), .int (0 : Int32), .int (Int32.ofNat n)] [] 0 0 0 dIX_32 (wd109 hw) (wd110 hw) (wd71 hw) (wd111 hw) (by decide) (rmIC l Z a0 hw b n c sf hsf h n0 PA PH PL PB PF hn hc) rfl (lenOf pd_8 rfl) rfl (Nat.le_of_eq rfl) (by decide) (by decide) rfl rfl (by decide) (by decide) (goIs fun z1 q2 => ?_)
  exact K.ireturn dIX_35 (Or.inl rfl) rfl (by decide) (by decide) ⟨_, rfl, rfl, q2⟩
set_option maxRecDepth 65536 in
set_option maxHeartbeats 40000000 in
theorem rmI2 (l : Launch) (Z : State) (a0 : Array Value) (hw : ∀ d ∈ tables_1, d.before a0 Z = true) (t : Addr) (n : Nat) (c : Nat → Int32) (cs : Int32) (sf : Value) (hsf : sf.isRef = true) (h : Heap) (n0 : Nat) (PA : Sta Z h "java/lang/StringUTF16" "$assertionsDisabled" "Z" (.int (1 : Int32))) (PH : Sta Z h "java/lang/StringUTF16" "HI_BYTE_SHIFT" "I" (.int (0 : Int32))) (PL : Sta Z h "java/lang/StringUTF16" "LO_BYTE_SHIFT" "I" (.int (8 : Int32))) (PF : Sta Z h "jdk/internal/util/Preconditions" "SIOOBE_FORMATTER" "Ljava/util/function/BiFunction;" sf) (PC : Sta Z h "java/lang/String" "COMPACT_STRINGS" "Z" (.int cs)) (hcs : ¬ cs = 0) (S : Str Z h t n c) (hn : n ≤ 4) (hc : Sg c) : Con l Z ⟨"java/lang/String", "indexOf", "(II)I"⟩ jdk_42_method_80_code 3 (some .int) ({ frames := 5, cells := 0, slots := 0, locals := 73 } : Room) #[.ref t, .int (65533 : Int32), .int (0 : Int32)] h n0 (fun vr h' => ∃ z, vr = some (.int z) ∧ (h' = h ∧ Res n c z)) Vx := by
  refine Con.of pnI2 (fun m_ => efI2 m_ t (65533 : Int32) (0 : Int32)) (fun E K => ?_)
  obtain ⟨EX, b, FV, ⟨FC, ⟨N, f, PB⟩, hlow⟩ | ⟨FC, hpos, PB⟩⟩ := S
  · refine K.aloadN dI2_0 rfl rfl ?_
    refine K.callV (a := t) [] [] 0 0 0 dI2_1 (wd46 hw) (wd47 hw) (wd49 hw) (wd48 hw) (wd11 hw) (wd50 hw) (by decide) (rmIL l Z a0 hw t cs (0 : Int32) h n0 PC FC hcs) EX rfl (lenOf pd_10 rfl) rfl (Nat.le_of_eq rfl) (by decide) (by decide) rfl rfl (by decide) (by decide) (goP ?_)
    refine K.if_eq dI2_4 (fun u => absurd u (by decide)) (fun _ => ?_)
    refine K.aloadN dI2_7 rfl rfl ?_
    refine K.getF dI2_8 (wd29 hw) FV ?_
    refine K.iloadN dI2_11 rfl ?_
    refine K.iloadN dI2_12 rfl ?_
    refine K.aloadN dI2_13 rfl rfl ?_
    refine K.callV (a := t) [] [.int (0 : Int32), .int (65533 : Int32), .ref b] 3 0 0 dI2_14 (wd52 hw) (wd53 hw) (wd55 hw) (wd54 hw) (wd11 hw) (wd56 hw) (by decide) (rmLE l Z a0 hw t b cs (0 : Int32) N f h n0 EX PC FC FV hcs rfl PB) EX rfl (lenOf pd_11 rfl) rfl (Nat.le_of_eq rfl) (by decide) (by decide) rfl rfl (by decide) (by decide) (goP ?_)
    refine K.callS [.ref b, .int (65533 : Int32), .int (0 : Int32), .int (N >>> ((0 : Int32) &&& 31))] [] 0 0 0 dI2_17 (wd62 hw) (wd63 hw) (wd64 hw) (wd65 hw) (by decide) (rmLI l Z a0 hw b (0 : Int32) (N >>> ((0 : Int32) &&& 31)) h n0 ) rfl (lenOf pd_8 rfl) rfl (Nat.le_of_eq rfl) (by decide) (by decide) rfl rfl (by decide) (by decide) (goP ?_)
    refine K.goto dI2_20 ?_
    exact K.ireturn dI2_36 (Or.inl rfl) rfl (by decide) (by decide) ⟨_, rfl, rfl, Or.inr ⟨by decide, hlow⟩⟩
  · refine K.aloadN dI2_0 rfl rfl ?_
    refine K.callV (a := t) [] [] 0 0 0 dI2_1 (wd46 hw) (wd47 hw) (wd49 hw) (wd48 hw) (wd11 hw) (wd50 hw) (by decide) (rmIL l Z a0 hw t cs (1 : Int32) h n0 PC FC hcs) EX rfl (lenOf pd_10 rfl) rfl (Nat.le_of_eq rfl) (by decide) (by decide) rfl rfl (by decide) (by decide) (goP ?_)
    refine K.if_eq dI2_4 (fun _ => ?_) (fun u => absurd rfl u)
    refine K.aloadN dI2_23 rfl rfl ?_
    refine K.getF dI2_24 (wd29 hw) FV ?_
    refine K.iloadN dI2_27 rfl ?_
    refine K.iloadN dI2_28 rfl ?_
    refine K.aloadN dI2_29 rfl rfl ?_
    refine K.callV (a := t) [] [.int (0 : Int32), .int (65533 : Int32), .ref b] 3 0 0 dI2_30 (wd52 hw) (wd53 hw) (wd55 hw) (wd54 hw) (wd11 hw) (wd56 hw) (by decide) (rmLE l Z a0 hw t b cs (1 : Int32) (Int32.ofNat (2 * n)) (u16F c) h n0 EX PC FC FV hcs rfl PB) EX rfl (lenOf pd_11 rfl) rfl (Nat.le_of_eq rfl) (by decide) (by decide) rfl rfl (by decide) (by decide) (goP ?_)
    rw [own_shr (by omega)]
    refine K.callS [.ref b, .int (65533 : Int32), .int (0 : Int32), .int (Int32.ofNat n)] [] 0 0 0 dI2_33 (wd98 hw) (wd99 hw) (wd71 hw) (wd100 hw) (by decide) (rmIX l Z a0 hw b n c sf hsf h n0 PA PH PL PB PF hn hc hpos) rfl (lenOf pd_8 rfl) rfl (Nat.le_of_eq rfl) (by decide) (by decide) rfl rfl (by decide) (by decide) (goIs fun z1 q2 => ?_)
    exact K.ireturn dI2_36 (Or.inl rfl) rfl (by decide) (by decide) ⟨_, rfl, rfl, q2⟩
set_option maxRecDepth 65536 in
set_option maxHeartbeats 40000000 in
theorem rmI1 (l : Launch) (Z : State) (a0 : Array Value) (hw : ∀ d ∈ tables_1, d.before a0 Z = true) (t : Addr) (n : Nat) (c : Nat → Int32) (cs : Int32) (sf : Value) (hsf : sf.isRef = true) (h : Heap) (n0 : Nat) (PA : Sta Z h "java/lang/StringUTF16" "$assertionsDisabled" "Z" (.int (1 : Int32))) (PH : Sta Z h "java/lang/StringUTF16" "HI_BYTE_SHIFT" "I" (.int (0 : Int32))) (PL : Sta Z h "java/lang/StringUTF16" "LO_BYTE_SHIFT" "I" (.int (8 : Int32))) (PF : Sta Z h "jdk/internal/util/Preconditions" "SIOOBE_FORMATTER" "Ljava/util/function/BiFunction;" sf) (PC : Sta Z h "java/lang/String" "COMPACT_STRINGS" "Z" (.int cs)) (hcs : ¬ cs = 0) (S : Str Z h t n c) (hn : n ≤ 4) (hc : Sg c) : Con l Z ⟨"java/lang/String", "indexOf", "(I)I"⟩ jdk_42_method_79_code 2 (some .int) ({ frames := 6, cells := 0, slots := 0, locals := 87 } : Room) #[.ref t, .int (65533 : Int32)] h n0 (fun vr h' => ∃ z, vr = some (.int z) ∧ (h' = h ∧ Res n c z)) Vx := by
  refine Con.of pnI1 (fun m_ => efI1 m_ t (65533 : Int32)) (fun E K => ?_)
  have EX := S.1
  refine K.aloadN dI1_0 rfl rfl ?_
  refine K.iloadN dI1_1 rfl ?_
  refine K.iconst (0 : Int32) dI1_2 rfl ?_
  refine K.callV (a := t) [.int (65533 : Int32), .int (0 : Int32)] [] 0 0 0 dI1_3 (wd41 hw) (wd42 hw) (wd44 hw) (wd43 hw) (wd11 hw) (wd45 hw) (by decide) (rmI2 l Z a0 hw t n c cs sf hsf h n0 PA PH PL PF PC hcs S hn hc) EX rfl (lenOf pd_9 rfl) rfl (Nat.le_of_eq rfl) (by decide) (by decide) rfl rfl (by decide) (by decide) (goIs fun z1 q2 => ?_)
  exact K.ireturn dI1_6 (Or.inl rfl) rfl (by decide) (by decide) ⟨_, rfl, rfl, q2⟩
set_option maxRecDepth 65536 in
set_option maxHeartbeats 40000000 in
theorem rmIS (l : Launch) (Z : State) (a0 : Array Value) (hw : ∀ d ∈ tables_1, d.before a0 Z = true) (t : Addr) (n : Nat) (c : Nat → Int32) (cs : Int32) (sf : Value) (hsf : sf.isRef = true) (h : Heap) (n0 : Nat) (PA : Sta Z h "java/lang/StringUTF16" "$assertionsDisabled" "Z" (.int (1 : Int32))) (PH : Sta Z h "java/lang/StringUTF16" "HI_BYTE_SHIFT" "I" (.int (0 : Int32))) (PL : Sta Z h "java/lang/StringUTF16" "LO_BYTE_SHIFT" "I" (.int (8 : Int32))) (PF : Sta Z h "jdk/internal/util/Preconditions" "SIOOBE_FORMATTER" "Ljava/util/function/BiFunction;" sf) (PC : Sta Z h "java/lang/String" "COMPACT_STRINGS" "Z" (.int cs)) (hcs : ¬ cs = 0) (S : Str Z h t n c) (hn : n ≤ 4) (hc : Sg c) : Con l Z ⟨"com/example/vestwright/vestwright/InputFiles", "isUtf8", "(Ljava/lang/String;)Z"⟩ prog_23_method_3_code 1 (some .boolean) ({ frames := 7, cells := 0, slots := 0, locals := 100 } : Room) #[.ref t] h n0 (fun vr h' => ∃ z, vr = some (.int z) ∧ (h' = h ∧ (z = 1 ∧ (∀ i, i < n → c i ≠ 65533) ∨ z = 0 ∧ ∃ i, i < n ∧ c i = 65533))) Vx := by
  refine Con.of pnIS (fun m_ => efIS m_ t) (fun E K => ?_)
  have EX := S.1
  refine K.aloadN dIS_0 rfl rfl ?_
  refine K.ldcI dIS_1 (wd35 hw) ?_
  refine K.callV (a := t) [.int (65533 : Int32)] [] 0 0 0 dIS_3 (wd36 hw) (wd37 hw) (wd39 hw) (wd38 hw) (wd11 hw) (wd40 hw) (by decide) (rmI1 l Z a0 hw t n c cs sf hsf h n0 PA PH PL PF PC hcs S hn hc) EX rfl (lenOf pd_12 rfl) rfl (Nat.le_of_eq rfl) (by decide) (by decide) rfl rfl (by decide) (by decide) (goIs fun z1 q2 => ?_)
  refine K.if_ge dIS_6 (fun hc3 => ?_) (fun hc3 => ?_)
  · refine K.iconst (1 : Int32) dIS_9 rfl ?_
    refine K.goto dIS_10 ?_
    exact K.ireturn dIS_14 (Or.inr (Or.inl rfl)) rfl (by decide) (by decide) ⟨_, rfl, rfl, Or.inl ⟨rfl, (q2.resolve_left (fun r => r.1 hc3)).2⟩⟩
  · refine K.iconst (0 : Int32) dIS_13 rfl ?_
    exact K.ireturn dIS_14 (Or.inr (Or.inl rfl)) rfl (by decide) (by decide) ⟨_, rfl, rfl, Or.inr ⟨rfl, (q2.resolve_right (fun r => hc3 r.1)).2⟩⟩
set_option maxRecDepth 65536 in
set_option maxHeartbeats 40000000 in
theorem rmCA (l : Launch) (Z : State) (a0 : Array Value) (hw : ∀ d ∈ tables_1, d.before a0 Z = true) (b : Addr) (x N : Int32) (f : Int32 → Value) (h : Heap) (n0 : Nat) (P0 : Ia Z h b .byte N f) : Con l Z ⟨"java/lang/StringUTF16", "coderFromArrayLen", "([BI)B"⟩ jdk_52_method_15_code 2 (some .byte) ({ frames := 0, cells := 0, slots := 0, locals := 0 } : Room) #[.ref b, .int x] h n0 (fun vr h' => vr = some (.int (own_cd x N)) ∧ h' = h) Vx := by
  refine Con.of pnCA (fun m_ => efCA m_ b x) (fun E K => ?_)
  refine K.iloadN dCA_0 rfl ?_
  refine K.aloadN dCA_1 rfl rfl ?_
  refine K.arraylength dCA_2 P0 ?_
  refine K.isub dCA_3 ?_
  refine K.bipush (31 : Int32) dCA_4 rfl ?_
  refine K.iushr dCA_6 ?_
  refine K.i2b dCA_7 ?_
  exact K.ireturn dCA_8 (Or.inr (Or.inr (Or.inl rfl))) (own_nb _) (by decide) (by decide) ⟨rfl, rfl⟩
set_option maxRecDepth 65536 in
set_option maxHeartbeats 40000000 in
theorem rmNL (l : Launch) (Z : State) (a0 : Array Value) (hw : ∀ d ∈ tables_1, d.before a0 Z = true) (n : Nat) (h : Heap) (n0 : Nat) (hn : n ≤ 4) : Con l Z ⟨"java/lang/StringUTF16", "newBytesLength", "(I)I"⟩ jdk_52_method_3_code 1 (some .int) ({ frames := 0, cells := 0, slots := 0, locals := 0 } : Room) #[.int (Int32.ofNat n)] h n0 (fun vr h' => vr = some (.int (Int32.ofNat (2 * n))) ∧ h' = h) Vx := by
  refine Con.of pnNL (fun m_ => efNL m_ (Int32.ofNat n)) (fun E K => ?_)
  refine K.iloadN dNL_0 rfl ?_
  refine K.if_ge dNL_1 (fun u => absurd u (own_nn (by omega))) (fun _ => ?_)
  refine K.iloadN dNL_12 rfl ?_
  refine K.ldcI dNL_13 (wd85 hw) ?_
  refine K.ic_lt dNL_15 (fun _ => ?_) (fun u => absurd ((own_lt (j := 1073741823) (by omega) (by decide)).mpr (by omega)) u)
  refine K.iloadN dNL_55 rfl ?_
  refine K.iconst (1 : Int32) dNL_56 rfl ?_
  refine K.ishl dNL_57 ?_
  rw [own_shl (by omega)]
  exact K.ireturn dNL_58 (Or.inl rfl) rfl (by decide) (by decide) ⟨rfl, rfl⟩
set_option maxRecDepth 65536 in
set_option maxHeartbeats 40000000 in
theorem rmNF (l : Launch) (Z : State) (a0 : Array Value) (hw : ∀ d ∈ tables_1, d.before a0 Z = true) (n : Nat) (h : Heap) (n0 : Nat) (hn : n ≤ 4) : Con l Z ⟨"java/lang/StringUTF16", "newBytesFor", "(I)[B"⟩ jdk_52_method_2_code 1 (some (.array .byte)) ({ frames := 1, cells := 1, slots := 8, locals := 12 } : Room) #[.int (Int32.ofNat n)] h n0 (fun vr h' => ∃ t, vr = some (.ref t) ∧ (Keep h h' [] ∧ h.size ≤ t ∧ n0 ≤ t ∧ Ia Z h' t .byte (Int32.ofNat (2 * n)) (fun _ => .int 0))) Vx := by
  refine Con.of pnNF (fun m_ => efNF m_ (Int32.ofNat n)) (fun E K => ?_)
  have K1 : Keep h h [] := Keep.refl _ _
  refine K.iloadN dNF_0 rfl ?_
  refine K.callS [.int (Int32.ofNat n)] [] 0 0 0 dNF_1 (wd82 hw) (wd83 hw) (wd71 hw) (wd84 hw) (by decide) (rmNL l Z a0 hw n h n0 hn) rfl (lenOf pd_12 rfl) rfl (Nat.le_of_eq rfl) (by decide) (by decide) rfl rfl (by decide) (by decide) (goP ?_)
  refine K.newP (ty := .byte) (dv := .int 0) 8 1 8 dNF_4 (wd24 hw) rfl rfl (own_nn (by omega)) (by rw [clamp_of rfl (by omega)]; omega) (by decide) rfl rfl (by decide) (by decide) (fun h3 a2 ha4 g5 X6 A7 => ?_)
  have ks_a2 := ha_ge K1.1 ha4
  have K8 := K1.ext X6
  exact K.areturn dNF_6 rfl rfl rfl (by decide) (by decide) ⟨_, rfl, K8, ks_a2, g5, A7⟩
set_option maxRecDepth 65536 in
set_option maxHeartbeats 40000000 in
theorem rmPC (l : Launch) (Z : State) (a0 : Array Value) (hw : ∀ d ∈ tables_1, d.before a0 Z = true) (b : Addr) (i : Nat) (x : Int32) (n : Nat) (f : Int32 → Value) (h : Heap) (n0 : Nat) (PA : Sta Z h "java/lang/StringUTF16" "$assertionsDisabled" "Z" (.int (1 : Int32))) (PH : Sta Z h "java/lang/StringUTF16" "HI_BYTE_SHIFT" "I" (.int (0 : Int32))) (PL : Sta Z h "java/lang/StringUTF16" "LO_BYTE_SHIFT" "I" (.int (8 : Int32))) (PB : Ia Z h b .byte (Int32.ofNat (2 * n)) f) (gb : n0 ≤ b) (hi : i < n) (hn : n ≤ 4) : Con l Z ⟨"java/lang/StringUTF16", "putChar", "([BII)V"⟩ jdk_52_method_4_code 3 none ({ frames := 0, cells := 0, slots := 0, locals := 0 } : Room) #[.ref b, .int (Int32.ofNat i), .int x] h n0 (fun vr h' => vr = none ∧ (Keep h h' [b] ∧ Ia Z h' b .byte (Int32.ofNat (2 * n)) (own_put f i x))) Vx := by
  refine Con.of pnPC (fun m_ => efPC m_ b (Int32.ofNat i) x) (fun E K => ?_)
  have K1 : Keep h h [b] := Keep.refl _ _
  refine K.getS dPC_0 (wd89 hw) PA ?_
  refine K.if_ne dPC_3 (fun u => absurd u (by decide)) (fun _ => ?_)
  refine K.iloadN dPC_28 rfl ?_
  refine K.iconst (1 : Int32) dPC_29 rfl ?_
  refine K.ishl dPC_30 ?_
  rw [own_shl (by omega)]
  refine K.istoreN #[.val (.ref b), .val (.int (Int32.ofNat (2 * i))), .val (.int x)] dPC_31 rfl ?_
  refine K.aloadN dPC_32 rfl rfl ?_
  refine K.iloadN dPC_33 rfl ?_
  refine K.iinc (Int32.ofNat (2 * i + 1)) #[.val (.ref b), .val (.int (Int32.ofNat (2 * i + 1))), .val (.int x)] dPC_34 rfl (inc_ofNat (2 * i)).symm rfl ?_
  refine K.iloadN dPC_37 rfl ?_
  refine K.getS dPC_38 (wd90 hw) PH ?_
  refine K.ishr dPC_41 ?_
  refine K.i2b dPC_42 ?_
  refine K.bastore dPC_43 PB (own_nn (by omega)) ((own_lt (by omega) (by omega)).mpr (by omega)) gb (fun h2 W3 A4 => ?_)
  have K5 := K1.wr W3 (Or.inl (List.mem_of_getElem? (i := 0) rfl))
  have S6 := PA.wr W3
  have S7 := PH.wr W3
  have S8 := PL.wr W3
  refine K.aloadN dPC_44 rfl rfl ?_
  refine K.iloadN dPC_45 rfl ?_
  refine K.iloadN dPC_46 rfl ?_
  refine K.getS dPC_47 (wd91 hw) S8 ?_
  refine K.ishr dPC_50 ?_
  refine K.i2b dPC_51 ?_
  refine K.bastore dPC_52 A4 (own_nn (by omega)) ((own_lt (by omega) (by omega)).mpr (by omega)) gb (fun h9 W10 A11 => ?_)
  have K12 := K5.wr W10 (Or.inl (List.mem_of_getElem? (i := 0) rfl))
  have S13 := S6.wr W10
  have S14 := S7.wr W10
  have S15 := S8.wr W10
  exact K.ret dPC_53 (by decide) (by decide) ⟨rfl, K12, A11.congr (own_put_eq f i x)⟩
set_option maxRecDepth 65536 in
set_option maxHeartbeats 40000000 in
theorem rmTB (l : Launch) (Z : State) (a0 : Array Value) (hw : ∀ d ∈ tables_1, d.before a0 Z = true) (a : Addr) (n : Nat) (c : Nat → Int32) (h : Heap) (n0 : Nat) (PA : Sta Z h "java/lang/StringUTF16" "$assertionsDisabled" "Z" (.int (1 : Int32))) (PH : Sta Z h "java/lang/StringUTF16" "HI_BYTE_SHIFT" "I" (.int (0 : Int32))) (PL : Sta Z h "java/lang/StringUTF16" "LO_BYTE_SHIFT" "I" (.int (8 : Int32))) (PC : Ia Z h a .char (Int32.ofNat n) (charsF c)) (hn : n ≤ 4) (hc : Sg c) : Con l Z ⟨"java/lang/StringUTF16", "toBytes", "([CII)[B"⟩ jdk_52_method_14_code 5 (some (.array .byte)) ({ frames := 2, cells := 1, slots := 8, locals := 24 } : Room) #[.ref a, .int (0 : Int32), .int (Int32.ofNat n)] h n0 (fun vr h' => ∃ t, vr = some (.ref t) ∧ (Keep h h' [] ∧ h.size ≤ t ∧ n0 ≤ t ∧ Ia Z h' t .byte (Int32.ofNat (2 * n)) (u16F c))) Vx := by
  refine Con.of pnTB (fun m_ => efTB m_ a (0 : Int32) (Int32.ofNat n)) (fun E K => ?_)
  have K1 : Keep h h [] := Keep.refl _ _
  refine K.iloadN dTB_0 rfl ?_
  refine K.callS [.int (Int32.ofNat n)] [] 0 1 8 dTB_1 (wd79 hw) (wd80 hw) (wd71 hw) (wd81 hw) (by decide) (rmNF l Z a0 hw n h n0 hn) rfl (lenOf pd_13 rfl) rfl (Nat.le_of_eq rfl) (by decide) (by decide) rfl rfl (by decide) (by decide) (goR fun t2 h3 q4 => ?_)
  obtain ⟨K5, g6, e7, A8⟩ := q4
  have lt_a_t2 : a < t2 := Nat.lt_of_lt_of_le PC.lt g6
  have ks9 := Nat.le_trans K1.1 g6
  have K10 := K1.trans K5 all0
  have S11 := staK PA K5 all0
  have S12 := staK PH K5 all0
  have S13 := staK PL K5 all0
  have I14 := PC.keep K5 nin0
  refine K.astoreN #[.val (.ref a), .val (.int (0 : Int32)), .val (.int (Int32.ofNat n)), .val (.ref t2), .unset] dTB_4 rfl rfl ?_
  refine K.iconst (0 : Int32) dTB_5 rfl ?_
  refine K.istore #[.val (.ref a), .val (.int (0 : Int32)), .val (.int (Int32.ofNat n)), .val (.ref t2), .val (.int (0 : Int32))] dTB_6 rfl ?_
  have LOOP : ∀ (d i : Nat) (h1 : Heap), n ≤ i + d → i ≤ n → Sta Z h1 "java/lang/StringUTF16" "$assertionsDisabled" "Z" (.int (1 : Int32)) → Sta Z h1 "java/lang/StringUTF16" "HI_BYTE_SHIFT" "I" (.int (0 : Int32)) → Sta Z h1 "java/lang/StringUTF16" "LO_BYTE_SHIFT" "I" (.int (8 : Int32)) → Ia Z h1 a .char (Int32.ofNat n) (charsF c) → Ia Z h1 t2 .byte (Int32.ofNat (2 * n)) (own_part c i) → Keep h h1 [] → Wk E h1 1 8 8 #[.val (.ref a), .val (.int (Int32.ofNat i)), .val (.int (Int32.ofNat n)), .val (.ref t2), .val (.int (Int32.ofNat i))] [] := by
    intro d
    induction d with
    | zero =>
      intro i h1 hd hin PA1 PH1 PL1 PC1 PT1 KK
      refine K.iload dTB_8 rfl ?_
      refine K.iloadN dTB_10 rfl ?_
      refine K.ic_ge dTB_11 (fun u => absurd u (fun q => absurd ((own_lt (by omega) (by omega)).mp q) (by omega))) (fun _ => ?_)
      refine K.aloadN dTB_32 rfl rfl ?_
      have hi_ : i = n := by omega
      subst hi_
      exact K.areturn dTB_33 rfl rfl rfl (by decide) (by decide) ⟨_, rfl, KK, ks9, e7, PT1.congr (own_part_all c (by omega))⟩
    | succ d ih =>
      intro i h1 hd hin PA1 PH1 PL1 PC1 PT1 KK
      by_cases hi : i < n
      · refine K.iload dTB_8 rfl ?_
        refine K.iloadN dTB_10 rfl ?_
        refine K.ic_ge dTB_11 (fun _ => ?_) (fun u => absurd ((own_lt (by omega) (by omega)).mpr hi) u)
        refine K.aloadN dTB_14 rfl rfl ?_
        refine K.iload dTB_15 rfl ?_
        refine K.aloadN dTB_17 rfl rfl ?_
        refine K.iloadN dTB_18 rfl ?_
        refine K.caload (v := .int (c i)) dTB_19 PC1 (own_nn (by omega)) ((own_lt (by omega) (by omega)).mpr (by omega)) (own_rc c (by omega)) ?_
        refine K.callS [.ref t2, .int (Int32.ofNat i), .int (c i)] [] 0 1 8 dTB_20 (wd86 hw) (wd87 hw) (wd71 hw) (wd88 hw) (by decide) (rmPC l Z a0 hw t2 i (c i) n (own_part c i) h1 n0 PA1 PH1 PL1 PT1 e7 (by omega) hn) rfl (lenOf pd_14 rfl) rfl (Nat.le_of_eq rfl) (by decide) (by decide) rfl rfl (by decide) (by decide) (goU fun h15 q16 => ?_)
        obtain ⟨K17, A18⟩ := q16
        have K19 := KK.trans K17 (allS (Or.inr ks9) all0)
        have S20 := staK PA1 K17 (allS (plA PT1) all0)
        have S21 := staK PH1 K17 (allS (plA PT1) all0)
        have S22 := staK PL1 K17 (allS (plA PT1) all0)
        have I23 := PC1.keep K17 (ninS (Nat.ne_of_lt lt_a_t2) nin0)
        refine K.iinc (Int32.ofNat (i + 1)) #[.val (.ref a), .val (.int (Int32.ofNat (i + 1))), .val (.int (Int32.ofNat n)), .val (.ref t2), .val (.int (Int32.ofNat i))] dTB_23 rfl (inc_ofNat i).symm rfl ?_
        refine K.iinc (Int32.ofNat (i + 1)) #[.val (.ref a), .val (.int (Int32.ofNat (i + 1))), .val (.int (Int32.ofNat n)), .val (.ref t2), .val (.int (Int32.ofNat (i + 1)))] dTB_26 rfl (inc_ofNat i).symm rfl ?_
        refine K.goto dTB_29 ?_
        exact ih (i + 1) _ (by omega) (by omega) S20 S21 S22 I23 (A18.congr (own_part_step c (by omega))) K19
      · refine K.iload dTB_8 rfl ?_
        refine K.iloadN dTB_10 rfl ?_
        refine K.ic_ge dTB_11 (fun u => absurd u (fun q => absurd ((own_lt (by omega) (by omega)).mp q) (by omega))) (fun _ => ?_)
        refine K.aloadN dTB_32 rfl rfl ?_
        have hi_ : i = n := by omega
        subst hi_
        exact K.areturn dTB_33 rfl rfl rfl (by decide) (by decide) ⟨_, rfl, KK, ks9, e7, PT1.congr (own_part_all c (by omega))⟩
  exact LOOP n 0 _ (by omega) (by omega) S11 S12 S13 I14 (A8.congr (fun j _ _ => own_part_zero c j)) K10
set_option maxRecDepth 65536 in
set_option maxHeartbeats 40000000 in
theorem rmC5 (l : Launch) (Z : State) (a0 : Array Value) (hw : ∀ d ∈ tables_1, d.before a0 Z = true) (a d : Addr) (n : Nat) (c : Nat → Int32) (f : Int32 → Value) (h : Heap) (n0 : Nat) (PC : Ia Z h a .char (Int32.ofNat n) (charsF c)) (PD : Ia Z h d .byte (Int32.ofNat n) f) (gd : n0 ≤ d) (had : a < d) (hn : n ≤ 4) (hc : Sg c) : Con l Z ⟨"java/lang/StringUTF16", "compress", "([CI[BII)I"⟩ jdk_52_method_21_code 7 (some .int) ({ frames := 0, cells := 0, slots := 0, locals := 0 } : Room) #[.ref a, .int (0 : Int32), .ref d, .int (0 : Int32), .int (Int32.ofNat n)] h n0 (fun vr h' => ∃ z, vr = some (.int z) ∧ (Keep h h' [d] ∧ (∃ f', Ia Z h' d .byte (Int32.ofNat n) f') ∧ ∃ k, z = Int32.ofNat k ∧ k ≤ n ∧ (k < n → 255 < c k) ∧ ∀ j, j < k → ¬ 255 < c j)) Vx := by
  refine Con.of pnC5 (fun m_ => efC5 m_ a (0 : Int32) d (0 : Int32) (Int32.ofNat n)) (fun E K => ?_)
  have K1 : Keep h h [d] := Keep.refl _ _
  refine K.iconst (0 : Int32) dC5_0 rfl ?_
  refine K.istore #[.val (.ref a), .val (.int (0 : Int32)), .val (.ref d), .val (.int (0 : Int32)), .val (.int (Int32.ofNat n)), .val (.int (0 : Int32)), .unset] dC5_1 rfl ?_
  have LOOP : ∀ (dd i : Nat) (h1 : Heap) (f : Int32 → Value) (x6 : Slot), One x6 → n ≤ i + dd → i ≤ n → (∀ j, j < i → ¬ 255 < c j) → Ia Z h1 a .char (Int32.ofNat n) (charsF c) → Ia Z h1 d .byte (Int32.ofNat n) f → Keep h h1 [d] → Wk E h1 0 0 3 #[.val (.ref a), .val (.int (Int32.ofNat i)), .val (.ref d), .val (.int (Int32.ofNat i)), .val (.int (Int32.ofNat n)), .val (.int (Int32.ofNat i)), x6] [] := by
    intro dd
    induction dd with
    | zero =>
      intro i h1 f x6 hx6 hd hin hN PC1 PD1 KK
      refine K.iload dC5_3 rfl ?_
      refine K.iload dC5_5 rfl ?_
      refine K.ic_ge dC5_7 (fun u => absurd u (fun q => absurd ((own_lt (by omega) (by omega)).mp q) (by omega))) (fun _ => ?_)
      refine K.iload dC5_44 rfl ?_
      exact K.ireturn dC5_46 (Or.inl rfl) rfl (by decide) (by decide) ⟨_, rfl, KK, ⟨_, PD1⟩, n, rfl, Nat.le_refl _, fun q => absurd q (by omega), fun j hj => hN j (by omega)⟩
    | succ dd ih =>
      intro i h1 f x6 hx6 hd hin hN PC1 PD1 KK
      by_cases hi : i < n
      · refine K.iload dC5_3 rfl ?_
        refine K.iload dC5_5 rfl ?_
        refine K.ic_ge dC5_7 (fun _ => ?_) (fun u => absurd ((own_lt (by omega) (by omega)).mpr hi) u)
        refine K.aloadN dC5_10 rfl rfl ?_
        refine K.iloadN dC5_11 rfl ?_
        refine K.caload (v := .int (c i)) dC5_12 PC1 (own_nn (by omega)) ((own_lt (by omega) (by omega)).mpr (by omega)) (own_rc c (by omega)) ?_
        refine K.istore #[.val (.ref a), .val (.int (Int32.ofNat i)), .val (.ref d), .val (.int (Int32.ofNat i)), .val (.int (Int32.ofNat n)), .val (.int (Int32.ofNat i)), .val (.int (c i))] dC5_13 (XS.store1 rfl hx6 rfl) ?_
        refine K.iload dC5_15 rfl ?_
        refine K.sipush (255 : Int32) dC5_17 rfl ?_
        refine K.ic_le dC5_20 (fun hc2 => ?_) (fun hc2 => ?_)
        · refine K.iload dC5_23 rfl ?_
          exact K.ireturn dC5_25 (Or.inl rfl) rfl (by decide) (by decide) ⟨_, rfl, KK, ⟨_, PD1⟩, i, rfl, by omega, fun _ => hc2, hN⟩
        · refine K.aloadN dC5_26 rfl rfl ?_
          refine K.iloadN dC5_27 rfl ?_
          refine K.iload dC5_28 rfl ?_
          refine K.i2b dC5_30 ?_
          refine K.bastore dC5_31 PD1 (own_nn (by omega)) ((own_lt (by omega) (by omega)).mpr (by omega)) gd (fun h3 W4 A5 => ?_)
          have K6 := KK.wr W4 (Or.inl (List.mem_of_getElem? (i := 0) rfl))
          have I7 := PC1.other W4 (Nat.ne_of_lt had)
          refine K.iinc (Int32.ofNat (i + 1)) #[.val (.ref a), .val (.int (Int32.ofNat (i + 1))), .val (.ref d), .val (.int (Int32.ofNat i)), .val (.int (Int32.ofNat n)), .val (.int (Int32.ofNat i)), .val (.int (c i))] dC5_32 rfl (inc_ofNat i).symm rfl ?_
          refine K.iinc (Int32.ofNat (i + 1)) #[.val (.ref a), .val (.int (Int32.ofNat (i + 1))), .val (.ref d), .val (.int (Int32.ofNat (i + 1))), .val (.int (Int32.ofNat n)), .val (.int (Int32.ofNat i)), .val (.int (c i))] dC5_35 rfl (inc_ofNat i).symm rfl ?_
          refine K.iinc (Int32.ofNat (i + 1)) #[.val (.ref a), .val (.int (Int32.ofNat (i + 1))), .val (.ref d), .val (.int (Int32.ofNat (i + 1))), .val (.int (Int32.ofNat n)), .val (.int (Int32.ofNat (i + 1))), .val (.int (c i))] dC5_38 rfl (inc_ofNat i).symm rfl ?_
          refine K.goto dC5_41 ?_
          exact ih (i + 1) _ _ _ (One.val rfl) (by omega) (by omega) (fun j hj => by rcases Nat.lt_succ_iff_lt_or_eq.mp hj with q | rfl; exact hN j q; exact hc2) I7 A5 K6
      · refine K.iload dC5_3 rfl ?_
        refine K.iload dC5_5 rfl ?_
        refine K.ic_ge dC5_7 (fun u => absurd u (fun q => absurd ((own_lt (by omega) (by omega)).mp q) (by omega))) (fun _ => ?_)
        refine K.iload dC5_44 rfl ?_
        exact K.ireturn dC5_46 (Or.inl rfl) rfl (by decide) (by decide) ⟨_, rfl, KK, ⟨_, PD1⟩, n, rfl, Nat.le_refl _, fun q => absurd q (by omega), fun j hj => hN j (by omega)⟩
  exact LOOP n 0 _ _ _ (Or.inl rfl) (by omega) (by omega) (fun j hj => absurd hj (by omega)) PC PD K1
set_option maxRecDepth 65536 in
set_option maxHeartbeats 40000000 in
theorem rmC3 (l : Launch) (Z : State) (a0 : Array Value) (hw : ∀ d ∈ tables_1, d.before a0 Z = true) (a : Addr) (n : Nat) (c : Nat → Int32) (h : Heap) (n0 : Nat) (PA : Sta Z h "java/lang/StringUTF16" "$assertionsDisabled" "Z" (.int (1 : Int32))) (PH : Sta Z h "java/lang/StringUTF16" "HI_BYTE_SHIFT" "I" (.int (0 : Int32))) (PL : Sta Z h "java/lang/StringUTF16" "LO_BYTE_SHIFT" "I" (.int (8 : Int32))) (PC : Ia Z h a .char (Int32.ofNat n) (charsF c)) (hn : n ≤ 4) (hc : Sg c) : Con l Z ⟨"java/lang/StringUTF16", "compress", "([CII)[B"⟩ jdk_52_method_16_code 6 (some (.array .byte)) ({ frames := 3, cells := 2, slots := 12, locals := 40 } : Room) #[.ref a, .int (0 : Int32), .int (Int32.ofNat n)] h n0 (fun vr h' => ∃ t, vr = some (.ref t) ∧ (Keep h h' [] ∧ h.size ≤ t ∧ n0 ≤ t ∧ (((∃ f, Ia Z h' t .byte (Int32.ofNat n) f) ∧ ∀ j, j < n → ¬ 255 < c j) ∨ Ia Z h' t .byte (Int32.ofNat (2 * n)) (u16F c)))) Vx := by
  refine Con.of pnC3 (fun m_ => efC3 m_ a (0 : Int32) (Int32.ofNat n)) (fun E K => ?_)
  have K1 : Keep h h [] := Keep.refl _ _
  refine K.iloadN dC3_0 rfl ?_
  refine K.newP (ty := .byte) (dv := .int 0) 4 1 4 dC3_1 (wd24 hw) rfl rfl (own_nn (by omega)) (by rw [clamp_of rfl (by omega)]; exact hn) (by decide) rfl rfl (by decide) (by decide) (fun h3 a2 ha4 g5 X6 A7 => ?_)
  have ks_a2 := ha_ge K1.1 ha4
  have lt_a_a2 : a < a2 := by rw [ha4]; exact PC.lt
  have K8 := K1.ext X6
  have S9 := PA.ext X6
  have S10 := PH.ext X6
  have S11 := PL.ext X6
  have I12 := PC.ext X6
  refine K.astoreN #[.val (.ref a), .val (.int (0 : Int32)), .val (.int (Int32.ofNat n)), .val (.ref a2), .unset, .unset] dC3_3 rfl rfl ?_
  refine K.aloadN dC3_4 rfl rfl ?_
  refine K.iloadN dC3_5 rfl ?_
  refine K.aloadN dC3_6 rfl rfl ?_
  refine K.iconst (0 : Int32) dC3_7 rfl ?_
  refine K.iloadN dC3_8 rfl ?_
  refine K.callS [.ref a, .int (0 : Int32), .ref a2, .int (0 : Int32), .int (Int32.ofNat n)] [] 0 1 4 dC3_9 (wd73 hw) (wd74 hw) (wd71 hw) (wd75 hw) (by decide) (rmC5 l Z a0 hw a a2 n c (fun _ => .int 0) h3 n0 I12 A7 g5 lt_a_a2 hn hc) rfl (lenOf pd_15 rfl) rfl (Nat.le_of_eq rfl) (by decide) (by decide) rfl rfl (by decide) (by decide) (goI fun z13 h14 q15 => ?_)
  obtain ⟨K16, ⟨fd, A17⟩, kk, rfl, hkn, hbig, hlow⟩ := q15
  have K18 := K8.trans K16 (allS (Or.inr ks_a2) all0)
  have S19 := staK S9 K16 (allS (plA A7) all0)
  have S20 := staK S10 K16 (allS (plA A7) all0)
  have S21 := staK S11 K16 (allS (plA A7) all0)
  have I22 := I12.keep K16 (ninS (Nat.ne_of_lt lt_a_a2) nin0)
  refine K.istore #[.val (.ref a), .val (.int (0 : Int32)), .val (.int (Int32.ofNat n)), .val (.ref a2), .val (.int (Int32.ofNat kk)), .unset] dC3_12 rfl ?_
  refine K.iload dC3_14 rfl ?_
  refine K.iloadN dC3_16 rfl ?_
  refine K.ic_eq dC3_17 (fun hc23 => ?_) (fun hc23 => ?_)
  · have hkk := own_inj (by omega) (by omega) hc23
    refine K.aloadN dC3_57 rfl rfl ?_
    exact K.areturn dC3_58 rfl rfl rfl (by decide) (by decide) ⟨_, rfl, K18, ks_a2, g5, Or.inl ⟨⟨_, A17⟩, fun j hj => hlow j (by omega)⟩⟩
  · have hkk : kk < n := Nat.lt_of_le_of_ne hkn (fun e => hc23 (by rw [e]))
    refine K.aloadN dC3_20 rfl rfl ?_
    refine K.iloadN dC3_21 rfl ?_
    refine K.iloadN dC3_22 rfl ?_
    refine K.callS [.ref a, .int (0 : Int32), .int (Int32.ofNat n)] [] 0 2 12 dC3_23 (wd76 hw) (wd77 hw) (wd71 hw) (wd78 hw) (by decide) (rmTB l Z a0 hw a n c h14 n0 S19 S20 S21 I22 hn hc) rfl (lenOf pd_16 rfl) rfl (Nat.le_of_eq rfl) (by decide) (by decide) rfl rfl (by decide) (by decide) (goR fun t24 h25 q26 => ?_)
    obtain ⟨K27, g28, e29, A30⟩ := q26
    have lt_a_t24 : a < t24 := Nat.lt_of_lt_of_le I22.lt g28
    have lt_a2_t24 : a2 < t24 := Nat.lt_of_lt_of_le A17.lt g28
    have ks31 := Nat.le_trans K18.1 g28
    have K32 := K18.trans K27 all0
    have S33 := staK S19 K27 all0
    have S34 := staK S20 K27 all0
    have S35 := staK S21 K27 all0
    have I36 := I22.keep K27 nin0
    have I37 := A17.keep K27 nin0
    refine K.astore #[.val (.ref a), .val (.int (0 : Int32)), .val (.int (Int32.ofNat n)), .val (.ref a2), .val (.int (Int32.ofNat kk)), .val (.ref t24)] dC3_26 rfl rfl ?_
    refine K.aload dC3_28 rfl rfl ?_
    refine K.iload dC3_30 rfl ?_
    refine K.callS [.ref t24, .int (Int32.ofNat kk)] [] 0 2 12 dC3_32 (wd92 hw) (wd93 hw) (wd71 hw) (wd94 hw) (by decide) (rmGC l Z a0 hw t24 kk n c h25 n0 S33 S34 S35 A30 (by omega) hn hc) rfl (lenOf pd_6 rfl) rfl (Nat.le_of_eq rfl) (by decide) (by decide) rfl rfl (by decide) (by decide) (goP ?_)
    refine K.sipush (255 : Int32) dC3_35 rfl ?_
    refine K.ic_gt dC3_38 (fun _ => ?_) (fun u => absurd (hbig hkk) u)
    refine K.aload dC3_54 rfl rfl ?_
    exact K.areturn dC3_56 rfl rfl rfl (by decide) (by decide) ⟨_, rfl, K32, ks31, e29, Or.inr A30⟩
set_option maxRecDepth 65536 in
set_option maxHeartbeats 40000000 in
theorem rmCI (l : Launch) (Z : State) (a0 : Array Value) (hw : ∀ d ∈ tables_1, d.before a0 Z = true) (a q : Addr) (n : Nat) (c : Nat → Int32) (cs : Int32) (h : Heap) (n0 : Nat) (PA : Sta Z h "java/lang/StringUTF16" "$assertionsDisabled" "Z" (.int (1 : Int32))) (PH : Sta Z h "java/lang/StringUTF16" "HI_BYTE_SHIFT" "I" (.int (0 : Int32))) (PL : Sta Z h "java/lang/StringUTF16" "LO_BYTE_SHIFT" "I" (.int (8 : Int32))) (PS : Sta Z h "java/lang/String" "COMPACT_STRINGS" "Z" (.int cs)) (hcs : ¬ cs = 0) (PE : Exa Z h a "java/lang/String") (PV : Fld Z h a "java/lang/String" "value" "[B" .null) (PK : Fld Z h a "java/lang/String" "coder" "B" (.int (0 : Int32))) (ga : n0 ≤ a) (PC : Ia Z h q .char (Int32.ofNat n) (charsF c)) (hqa : q ≠ a) (hpos : 0 < n) (hn : n ≤ 4) (hc : Sg c) : Con l Z ⟨"java/lang/String", "<init>", "([CIILjava/lang/Void;)V"⟩ jdk_42_method_149_code 6 none ({ frames := 4, cells := 2, slots := 12, locals := 57 } : Room) #[.ref a, .ref q, .int (0 : Int32), .int (Int32.ofNat n), .null] h n0 (fun vr h' => vr = none ∧ (Keep h h' [a] ∧ Str Z h' a n c)) Vx := by
  refine Con.of pnCI (fun m_ => efCI m_ a q (0 : Int32) (Int32.ofNat n)) (fun E K => ?_)
  have K1 : Keep h h [a] := Keep.refl _ _
  refine K.aloadN dCI_0 rfl rfl ?_
  refine K.initO 0 dCI_1 (wd20 hw) (wd21 hw) (wd22 hw) rfl (by decide) (Nat.le_of_eq rfl) (by decide) ?_
  refine K.iloadN dCI_4 rfl ?_
  refine K.if_ne dCI_5 (fun u => absurd u (fun q => absurd (own_inj (j := 0) (by omega) (by decide) q) (by omega))) (fun _ => ?_)
  refine K.getS dCI_27 (wd51 hw) PS ?_
  refine K.if_eq dCI_30 (fun u => absurd u hcs) (fun _ => ?_)
  refine K.aloadN dCI_33 rfl rfl ?_
  refine K.iloadN dCI_34 rfl ?_
  refine K.iloadN dCI_35 rfl ?_
  refine K.callS [.ref q, .int (0 : Int32), .int (Int32.ofNat n)] [] 0 2 12 dCI_36 (wd69 hw) (wd70 hw) (wd71 hw) (wd72 hw) (by decide) (rmC3 l Z a0 hw q n c h n0 PA PH PL PC hn hc) rfl (lenOf pd_16 rfl) rfl (Nat.le_of_eq rfl) (by decide) (by decide) rfl rfl (by decide) (by decide) (goR fun t2 h3 q4 => ?_)
  obtain ⟨K5, g6, e7, A8⟩ := q4
  have lt_a_t2 : a < t2 := Nat.lt_of_lt_of_le PE.lt g6
  have lt_q_t2 : q < t2 := Nat.lt_of_lt_of_le PC.lt g6
  have ks9 := Nat.le_trans K1.1 g6
  have K10 := K1.trans K5 all0
  have S11 := staK PA K5 all0
  have S12 := staK PH K5 all0
  have S13 := staK PL K5 all0
  have S14 := staK PS K5 all0
  have E15 := PE.keep K5
  have F16 := PV.keep K5 nin0
  have F17 := PK.keep K5 nin0
  have I18 := PC.keep K5 nin0
  rcases A8 with ⟨⟨fz, AZ⟩, hz⟩ | AZ
  · refine K.astore #[.val (.ref a), .val (.ref q), .val (.int (0 : Int32)), .val (.int (Int32.ofNat n)), .val .null, .val (.ref t2)] dCI_39 rfl rfl ?_
    refine K.aloadN dCI_41 rfl rfl ?_
    refine K.aload dCI_42 rfl rfl ?_
    refine K.iloadN dCI_44 rfl ?_
    refine K.callS [.ref t2, .int (Int32.ofNat n)] [.ref a] 1 2 12 dCI_45 (wd95 hw) (wd96 hw) (wd71 hw) (wd97 hw) (by decide) (rmCA l Z a0 hw t2 (Int32.ofNat n) (Int32.ofNat n) fz h3 n0 AZ) rfl (lenOf pd_17 rfl) rfl (Nat.le_of_eq rfl) (by decide) (by decide) rfl rfl (by decide) (by decide) (goP ?_)
    rw [own_cd0 hn]
    refine K.putF dCI_48 (wd30 hw) F17 E15 (Or.inr ⟨(wd26 hw), rfl, rfl⟩) (wd10 hw) (ty := .byte) (by decide) rfl rfl ga (fun h19 W20 => ?_)
    have K21 := K10.wr W20 (Or.inl (List.mem_of_getElem? (i := 0) rfl))
    have S22 := S11.wr W20
    have S23 := S12.wr W20
    have S24 := S13.wr W20
    have S25 := S14.wr W20
    have E26 := E15.wr W20
    have F27 := F16.other W20 (Or.inr (RoadKit.slot_ne (Or.inr (wd25 hw)) (Or.inr (wd26 hw)) (by decide) (t := (.array .byte)) (t' := .byte) (by decide) (by decide)))
    have F28 := F17.same W20
    have I29 := I18.other W20 hqa
    have I30 := AZ.other W20 (Nat.ne_of_gt lt_a_t2)
    refine K.aloadN dCI_51 rfl rfl ?_
    refine K.aload dCI_52 rfl rfl ?_
    refine K.putF dCI_54 (wd29 hw) F27 E26 (Or.inr ⟨(wd25 hw), rfl, rfl⟩) (wd10 hw) (ty := (.array .byte)) (by decide) rfl rfl ga (fun h31 W32 => ?_)
    have K33 := K21.wr W32 (Or.inl (List.mem_of_getElem? (i := 0) rfl))
    have S34 := S22.wr W32
    have S35 := S23.wr W32
    have S36 := S24.wr W32
    have S37 := S25.wr W32
    have E38 := E26.wr W32
    have F39 := F27.same W32
    have F40 := F28.other W32 (Or.inr (RoadKit.slot_ne (Or.inr (wd26 hw)) (Or.inr (wd25 hw)) (by decide) (t := .byte) (t' := (.array .byte)) (by decide) (by decide)))
    have I41 := I29.other W32 hqa
    have I42 := I30.other W32 (Nat.ne_of_gt lt_a_t2)
    exact K.ret dCI_57 (by decide) (by decide) ⟨rfl, K33, E38, _, F39, Or.inl ⟨F40, ⟨_, _, I42⟩, own_low hz⟩⟩
  · refine K.astore #[.val (.ref a), .val (.ref q), .val (.int (0 : Int32)), .val (.int (Int32.ofNat n)), .val .null, .val (.ref t2)] dCI_39 rfl rfl ?_
    refine K.aloadN dCI_41 rfl rfl ?_
    refine K.aload dCI_42 rfl rfl ?_
    refine K.iloadN dCI_44 rfl ?_
    refine K.callS [.ref t2, .int (Int32.ofNat n)] [.ref a] 1 2 12 dCI_45 (wd95 hw) (wd96 hw) (wd71 hw) (wd97 hw) (by decide) (rmCA l Z a0 hw t2 (Int32.ofNat n) (Int32.ofNat (2 * n)) (u16F c) h3 n0 AZ) rfl (lenOf pd_17 rfl) rfl (Nat.le_of_eq rfl) (by decide) (by decide) rfl rfl (by decide) (by decide) (goP ?_)
    rw [own_cd1 hpos hn]
    refine K.putF dCI_48 (wd30 hw) F17 E15 (Or.inr ⟨(wd26 hw), rfl, rfl⟩) (wd10 hw) (ty := .byte) (by decide) rfl rfl ga (fun h43 W44 => ?_)
    have K45 := K10.wr W44 (Or.inl (List.mem_of_getElem? (i := 0) rfl))
    have S46 := S11.wr W44
    have S47 := S12.wr W44
    have S48 := S13.wr W44
    have S49 := S14.wr W44
    have E50 := E15.wr W44
    have F51 := F16.other W44 (Or.inr (RoadKit.slot_ne (Or.inr (wd25 hw)) (Or.inr (wd26 hw)) (by decide) (t := (.array .byte)) (t' := .byte) (by decide) (by decide)))
    have F52 := F17.same W44
    have I53 := I18.other W44 hqa
    have I54 := AZ.other W44 (Nat.ne_of_gt lt_a_t2)
    refine K.aloadN dCI_51 rfl rfl ?_
    refine K.aload dCI_52 rfl rfl ?_
    refine K.putF dCI_54 (wd29 hw) F51 E50 (Or.inr ⟨(wd25 hw), rfl, rfl⟩) (wd10 hw) (ty := (.array .byte)) (by decide) rfl rfl ga (fun h55 W56 => ?_)
    have K57 := K45.wr W56 (Or.inl (List.mem_of_getElem? (i := 0) rfl))
    have S58 := S46.wr W56
    have S59 := S47.wr W56
    have S60 := S48.wr W56
    have S61 := S49.wr W56
    have E62 := E50.wr W56
    have F63 := F51.same W56
    have F64 := F52.other W56 (Or.inr (RoadKit.slot_ne (Or.inr (wd26 hw)) (Or.inr (wd25 hw)) (by decide) (t := .byte) (t' := (.array .byte)) (by decide) (by decide)))
    have I65 := I53.other W56 hqa
    have I66 := I54.other W56 (Nat.ne_of_gt lt_a_t2)
    exact K.ret dCI_57 (by decide) (by decide) ⟨rfl, K57, E62, _, F63, Or.inr ⟨F64, hpos, I66⟩⟩
set_option maxRecDepth 65536 in
set_option maxHeartbeats 40000000 in
theorem rmCZ (l : Launch) (Z : State) (a0 : Array Value) (hw : ∀ d ∈ tables_1, d.before a0 Z = true) (a q : Addr) (c : Nat → Int32) (h : Heap) (n0 : Nat) (PE : Exa Z h a "java/lang/String") (PV : Fld Z h a "java/lang/String" "value" "[B" .null) (PK : Fld Z h a "java/lang/String" "coder" "B" (.int (0 : Int32))) (ga : n0 ≤ a) (hold : Ext Z.heap h) (hheld : Jvm.Lit.constHeld Z "java/lang/String" 7) (hcw : Jvm.Lit.compactW.before a0 Z = true) : Con l Z ⟨"java/lang/String", "<init>", "([CIILjava/lang/Void;)V"⟩ jdk_42_method_149_code 6 none ({ frames := 1, cells := 2, slots := 4, locals := 12 } : Room) #[.ref a, .ref q, .int (0 : Int32), .int (0 : Int32), .null] h n0 (fun vr h' => vr = none ∧ (Keep h h' [a] ∧ Str Z h' a 0 c)) (Vi Z) := by
  refine Con.of0 pnCZ (fun m_ => efCZ m_ a q (0 : Int32) (0 : Int32)) (fun E K => ?_)
  have K1 : Keep h h [a] := Keep.refl _ _
  refine K.aloadN dCZ_0 rfl rfl ?_
  refine K.initO 0 dCZ_1 (wd20 hw) (wd21 hw) (wd22 hw) rfl (by decide) (Nat.le_of_eq rfl) (by decide) ?_
  refine K.iloadN dCZ_4 rfl ?_
  refine K.if_ne dCZ_5 (fun _ => ?_) (fun u => absurd rfl u)
  refine K.aloadN dCZ_8 rfl rfl ?_
  refine K.ldcSV 2 4 dCZ_9 (wd23 hw) (fun d hd => hw d (own_strw d hd)) hold hheld hcw rfl rfl (by decide) (by decide) (fun se E K be h5 X5 EE FK FV AE => ?_)
  have K2 := K1.ext X5
  have E3 := PE.ext X5
  have F4 := PV.ext X5
  have F5 := PK.ext X5
  have nse : se ≠ a := Fld.ne FV F4 (by simp)
  have nbe : be ≠ a := fun e => absurd rfl (ne_arr (e ▸ E3) (wd10 hw) (own_arr AE))
  refine K.getF dCZ_11 (wd29 hw) FV ?_
  refine K.putF dCZ_14 (wd29 hw) F4 E3 (Or.inr ⟨(wd25 hw), rfl, rfl⟩) (wd10 hw) (ty := (.array .byte)) (by decide) rfl rfl ga (fun h6 W7 => ?_)
  have K8 := K2.wr W7 (Or.inl (List.mem_of_getElem? (i := 0) rfl))
  have E9 := E3.wr W7
  have F10 := F4.same W7
  have F11 := F5.other W7 (Or.inr (RoadKit.slot_ne (Or.inr (wd26 hw)) (Or.inr (wd25 hw)) (by decide) (t := .byte) (t' := (.array .byte)) (by decide) (by decide)))
  have E12 := EE.wr W7
  have F13 := FV.other W7 (Or.inl nse)
  have F14 := FK.other W7 (Or.inl nse)
  have I15 := AE.other W7 nbe
  refine K.aloadN dCZ_17 rfl rfl ?_
  refine K.ldcA dCZ_18 (wd23 hw) ?_
  refine K.getF dCZ_20 (wd30 hw) F14 ?_
  refine K.putF dCZ_23 (wd30 hw) F11 E9 (Or.inr ⟨(wd26 hw), rfl, rfl⟩) (wd10 hw) (ty := .byte) (by decide) rfl rfl ga (fun h16 W17 => ?_)
  have K18 := K8.wr W17 (Or.inl (List.mem_of_getElem? (i := 0) rfl))
  have E19 := E9.wr W17
  have F20 := F10.other W17 (Or.inr (RoadKit.slot_ne (Or.inr (wd25 hw)) (Or.inr (wd26 hw)) (by decide) (t := (.array .byte)) (t' := .byte) (by decide) (by decide)))
  have F21 := F11.same W17
  have E22 := E12.wr W17
  have F23 := F13.other W17 (Or.inl nse)
  have F24 := F14.other W17 (Or.inl nse)
  have I25 := I15.other W17 nbe
  exact K.ret dCZ_26 (by decide) (by decide) ⟨rfl, K18, E19, _, F20, Or.inl ⟨F21, ⟨_, _, I25⟩, fun i hi => absurd hi (by omega)⟩⟩
set_option maxRecDepth 65536 in
set_option maxHeartbeats 40000000 in
theorem rmSI (l : Launch) (Z : State) (a0 : Array Value) (hw : ∀ d ∈ tables_1, d.before a0 Z = true) (a q : Addr) (n : Nat) (c : Nat → Int32) (cs : Int32) (h : Heap) (n0 : Nat) (PA : Sta Z h "java/lang/StringUTF16" "$assertionsDisabled" "Z" (.int (1 : Int32))) (PH : Sta Z h "java/lang/StringUTF16" "HI_BYTE_SHIFT" "I" (.int (0 : Int32))) (PL : Sta Z h "java/lang/StringUTF16" "LO_BYTE_SHIFT" "I" (.int (8 : Int32))) (PS : Sta Z h "java/lang/String" "COMPACT_STRINGS" "Z" (.int cs)) (hcs : ¬ cs = 0) (PE : Exa Z h a "java/lang/String") (PV : Fld Z h a "java/lang/String" "value" "[B" .null) (PK : Fld Z h a "java/lang/String" "coder" "B" (.int (0 : Int32))) (ga : n0 ≤ a) (PC : Ia Z h q .char (Int32.ofNat n) (charsF c)) (hqa : q ≠ a) (hpos : 0 < n) (hn : n ≤ 4) (hc : Sg c) : Con l Z ⟨"java/lang/String", "<init>", "([C)V"⟩ jdk_42_method_3_code 2 none ({ frames := 5, cells := 2, slots := 12, locals := 74 } : Room) #[.ref a, .ref q] h n0 (fun vr h' => vr = none ∧ (Keep h h' [a] ∧ Str Z h' a n c)) Vx := by
  refine Con.of pnSI (fun m_ => efSI m_ a q) (fun E K => ?_)
  have K1 : Keep h h [a] := Keep.refl _ _
  refine K.aloadN dSI_0 rfl rfl ?_
  refine K.aloadN dSI_1 rfl rfl ?_
  refine K.iconst (0 : Int32) dSI_2 rfl ?_
  refine K.aloadN dSI_3 rfl rfl ?_
  refine K.arraylength dSI_4 PC ?_
  refine K.aconst_null dSI_5 ?_
  refine K.callI (a := a) [.ref q, .int (0 : Int32), .int (Int32.ofNat n), .null] [] 0 2 12 dSI_6 rfl rfl (wd16 hw) (wd17 hw) (wd11 hw) (wd19 hw) (by decide) (rmCI l Z a0 hw a q n c cs h n0 PA PH PL PS hcs PE PV PK ga PC hqa hpos hn hc) rfl (lenOf pd_18 rfl) rfl (Nat.le_of_eq rfl) (by decide) (by decide) rfl rfl (by decide) (by decide) (goU fun h2 q3 => ?_)
  obtain ⟨K4, S5⟩ := q3
  have K6 := K1.trans K4 (allS (Or.inl (List.mem_of_getElem? (i := 0) rfl)) all0)
  have S7 := staK PA K4 (allS (plE PE) all0)
  have S8 := staK PH K4 (allS (plE PE) all0)
  have S9 := staK PL K4 (allS (plE PE) all0)
  have S10 := staK PS K4 (allS (plE PE) all0)
  have E11 := PE.keep K4
  have I12 := PC.keep K4 (ninS hqa nin0)
  exact K.ret dSI_9 (by decide) (by decide) ⟨rfl, K6, S5⟩
set_option maxRecDepth 65536 in
set_option maxHeartbeats 40000000 in
theorem rmSZ (l : Launch) (Z : State) (a0 : Array Value) (hw : ∀ d ∈ tables_1, d.before a0 Z = true) (a q : Addr) (f : Int32 → Value) (c : Nat → Int32) (h : Heap) (n0 : Nat) (PC : Ia Z h q .char (0 : Int32) f) (hqa : q ≠ a) (PE : Exa Z h a "java/lang/String") (PV : Fld Z h a "java/lang/String" "value" "[B" .null) (PK : Fld Z h a "java/lang/String" "coder" "B" (.int (0 : Int32))) (ga : n0 ≤ a) (hold : Ext Z.heap h) (hheld : Jvm.Lit.constHeld Z "java/lang/String" 7) (hcw : Jvm.Lit.compactW.before a0 Z = true) : Con l Z ⟨"java/lang/String", "<init>", "([C)V"⟩ jdk_42_method_3_code 2 none ({ frames := 2, cells := 2, slots := 4, locals := 29 } : Room) #[.ref a, .ref q] h n0 (fun vr h' => vr = none ∧ (Keep h h' [a] ∧ Str Z h' a 0 c)) (Vi Z) := by
  refine Con.ofC pnSZ (fun m_ => efSZ m_ a q) (fun E K => ?_)
  have K1 : Keep h h [a] := Keep.refl _ _
  refine K.aloadN dSZ_0 rfl rfl ?_
  refine K.aloadN dSZ_1 rfl rfl ?_
  refine K.iconst (0 : Int32) dSZ_2 rfl ?_
  refine K.aloadN dSZ_3 rfl rfl ?_
  refine K.arraylength dSZ_4 PC ?_
  refine K.aconst_null dSZ_5 ?_
  refine K.callI_c (a := a) [.ref q, .int (0 : Int32), .int (0 : Int32), .null] [] 0 2 4 dSZ_6 rfl rfl (wd16 hw) (wd17 hw) (wd11 hw) (wd19 hw) (by decide) (rmCZ l Z a0 hw a q c h n0 PE PV PK ga hold hheld hcw) vv_c rfl (lenOf pd_18 rfl) rfl (Nat.le_of_eq rfl) (by decide) (by decide) rfl rfl (by decide) (by decide) (fun E K => (goU fun h2 q3 => ?_))
  obtain ⟨K4, S5⟩ := q3
  have K6 := K1.trans K4 (allS (Or.inl (List.mem_of_getElem? (i := 0) rfl)) all0)
  have E7 := PE.keep K4
  have I8 := PC.keep K4 (ninS hqa nin0)
  exact K.ret dSZ_9 (by decide) (by decide) ⟨rfl, K6, S5⟩
set_option maxRecDepth 65536 in
set_option maxHeartbeats 40000000 in
theorem rmMK (l : Launch) (Z : State) (a0 : Array Value) (hw : ∀ d ∈ tables_1, d.before a0 Z = true) (n : Nat) (c0 c1 c2 c3 cs : Int32) (h : Heap) (n0 : Nat) (PA : Sta Z h "java/lang/StringUTF16" "$assertionsDisabled" "Z" (.int (1 : Int32))) (PH : Sta Z h "java/lang/StringUTF16" "HI_BYTE_SHIFT" "I" (.int (0 : Int32))) (PL : Sta Z h "java/lang/StringUTF16" "LO_BYTE_SHIFT" "I" (.int (8 : Int32))) (PS : Sta Z h "java/lang/String" "COMPACT_STRINGS" "Z" (.int cs)) (hcs : ¬ cs = 0) (hold : Ext Z.heap h) (hheld : Jvm.Lit.constHeld Z "java/lang/String" 7) (hcw : Jvm.Lit.compactW.before a0 Z = true) (hn : n ≤ 4) (hg0 : 0 ≤ c0.toInt ∧ c0.toInt < 65536) (hg1 : 0 ≤ c1.toInt ∧ c1.toInt < 65536) (hg2 : 0 ≤ c2.toInt ∧ c2.toInt < 65536) (hg3 : 0 ≤ c3.toInt ∧ c3.toInt < 65536) : Con l Z ⟨"com/example/vestwright/vestwright/InputFilesIsUtf8PinLaw", "make", "(ICCCC)Ljava/lang/String;"⟩ method_3_code 5 (some (.object "java/lang/String")) ({ frames := 6, cells := 4, slots := 20, locals := 88 } : Room) #[.int (Int32.ofNat n), .int c0, .int c1, .int c2, .int c3] h n0 (fun vr h' => ∃ t, vr = some (.ref t) ∧ (Keep h h' [] ∧ Str Z h' t n (own_c c0 c1 c2 c3))) (Vi Z) := by
  refine Con.ofC pnMK (fun m_ => efMK m_ (Int32.ofNat n) c0 c1 c2 c3) (fun E K => ?_)
  have K1 : Keep h h [] := Keep.refl _ _
  rcases (show n = 0 ∨ n = 1 ∨ n = 2 ∨ n = 3 ∨ n = 4 by omega) with rfl | rfl | rfl | rfl | rfl
  · refine K.iloadN dMK_0 rfl ?_
    refine K.if_ne dMK_1 (fun _ => ?_) (fun u => absurd (by decide) u)
    refine K.newO 1 4 dMK_4 (wd9 hw) (wd10 hw) (wd11 hw) rfl rfl (by decide) (by decide) (fun h3 a2 ha4 g5 X6 A7 D8 => ?_)
    have ks_a2 := ha_ge K1.1 ha4
    have K9 := K1.ext X6
    have S10 := PA.ext X6
    have S11 := PH.ext X6
    have S12 := PL.ext X6
    have S13 := PS.ext X6
    have F14 : Fld Z h3 a2 "java/lang/String" "value" "[B" .null := D8 (Or.inr (wd25 hw)) (ty := (.array .byte)) (by decide)
    have F15 : Fld Z h3 a2 "java/lang/String" "coder" "B" (.int (0 : Int32)) := D8 (Or.inr (wd26 hw)) (ty := .byte) (by decide)
    refine K.dup dMK_7 rfl ?_
    refine K.iconst (0 : Int32) dMK_8 rfl ?_
    refine K.newP (ty := .char) (dv := .int 0) 0 2 4 dMK_9 (wd12 hw) rfl rfl (by decide) (by decide) (by decide) rfl rfl (by decide) (by decide) (fun h17 a16 ha18 g19 X20 A21 => ?_)
    have ks_a16 := ha_ge K9.1 ha18
    have lt_a2_a16 : a2 < a16 := by rw [ha18]; exact A7.lt
    have K22 := K9.ext X20
    have S23 := S10.ext X20
    have S24 := S11.ext X20
    have S25 := S12.ext X20
    have S26 := S13.ext X20
    have E27 := A7.ext X20
    have F28 := F14.ext X20
    have F29 := F15.ext X20
    have hcc := own_csg hg0 hg1 hg2 hg3
    obtain ⟨c, ec⟩ : ∃ c, c = own_c c0 c1 c2 c3 := ⟨_, rfl⟩
    refine K.callI_c (a := a2) [.ref a16] [.ref a2] 1 4 8 dMK_11 rfl rfl (wd13 hw) (wd14 hw) (wd11 hw) (wd15 hw) (by decide) (rmSZ l Z a0 hw a2 a16 (fun _ => .int 0) c h17 n0 A21 (Nat.ne_of_gt lt_a2_a16) E27 F28 F29 g5 (own_ext hold K22) hheld hcw) vv_c rfl (lenOf pd_19 rfl) rfl (Nat.le_of_eq rfl) (by decide) (by decide) rfl rfl (by decide) (by decide) (fun E K => (goU fun h30 q31 => ?_))
    obtain ⟨K32, S33⟩ := q31
    have K34 := K22.trans K32 (allS (Or.inr ks_a2) all0)
    have S35 := staK S23 K32 (allS (plE E27) all0)
    have S36 := staK S24 K32 (allS (plE E27) all0)
    have S37 := staK S25 K32 (allS (plE E27) all0)
    have S38 := staK S26 K32 (allS (plE E27) all0)
    have E39 := E27.keep K32
    have I40 := A21.keep K32 (ninS (Nat.ne_of_gt lt_a2_a16) nin0)
    subst ec
    exact K.areturn dMK_14 rfl rfl rfl (by decide) (by decide) ⟨_, rfl, K34, S33⟩
  · refine K.iloadN dMK_0 rfl ?_
    refine K.if_ne dMK_1 (fun u => absurd u (by decide)) (fun _ => ?_)
    refine K.iloadN dMK_15 rfl ?_
    refine K.iconst (1 : Int32) dMK_16 rfl ?_
    refine K.ic_ne dMK_17 (fun _ => ?_) (fun u => absurd (by decide) u)
    refine K.newO 1 4 dMK_20 (wd9 hw) (wd10 hw) (wd11 hw) rfl rfl (by decide) (by decide) (fun h42 a41 ha43 g44 X45 A46 D47 => ?_)
    have ks_a41 := ha_ge K1.1 ha43
    have K48 := K1.ext X45
    have S49 := PA.ext X45
    have S50 := PH.ext X45
    have S51 := PL.ext X45
    have S52 := PS.ext X45
    have F53 : Fld Z h42 a41 "java/lang/String" "value" "[B" .null := D47 (Or.inr (wd25 hw)) (ty := (.array .byte)) (by decide)
    have F54 : Fld Z h42 a41 "java/lang/String" "coder" "B" (.int (0 : Int32)) := D47 (Or.inr (wd26 hw)) (ty := .byte) (by decide)
    refine K.dup dMK_23 rfl ?_
    refine K.iconst (1 : Int32) dMK_24 rfl ?_
    refine K.newP (ty := .char) (dv := .int 0) 1 2 5 dMK_25 (wd12 hw) rfl rfl (by decide) (by decide) (by decide) rfl rfl (by decide) (by decide) (fun h56 a55 ha57 g58 X59 A60 => ?_)
    have ks_a55 := ha_ge K48.1 ha57
    have lt_a41_a55 : a41 < a55 := by rw [ha57]; exact A46.lt
    have K61 := K48.ext X59
    have S62 := S49.ext X59
    have S63 := S50.ext X59
    have S64 := S51.ext X59
    have S65 := S52.ext X59
    have E66 := A46.ext X59
    have F67 := F53.ext X59
    have F68 := F54.ext X59
    refine K.dup dMK_27 rfl ?_
    refine K.iconst (0 : Int32) dMK_28 rfl ?_
    refine K.iloadN dMK_29 rfl ?_
    refine K.castore dMK_30 A60 (by decide) (by decide) g58 (fun h69 W70 A71 => ?_)
    have K72 := K61.wr W70 (Or.inr ks_a55)
    have S73 := S62.wr W70
    have S74 := S63.wr W70
    have S75 := S64.wr W70
    have S76 := S65.wr W70
    have E77 := E66.wr W70
    have F78 := F67.other W70 (Or.inl (Nat.ne_of_lt lt_a41_a55))
    have F79 := F68.other W70 (Or.inl (Nat.ne_of_lt lt_a41_a55))
    obtain ⟨c, ec⟩ : ∃ c, c = own_c c0 c1 c2 c3 := ⟨_, rfl⟩
    have hc : Sg c := ec ▸ own_csg hg0 hg1 hg2 hg3
    have AC : Ia Z h69 a55 .char (Int32.ofNat 1) (charsF c) := A71.congr (fun j j1 j2 => by subst ec; rcases own_four j1 (Int32.lt_of_lt_of_le j2 (by decide)) with rfl | rfl | rfl | rfl <;> first | exact congrArg Value.int (own_ic (by assumption)) | exact absurd j2 (by decide))
    obtain ⟨n, en⟩ : ∃ n : Nat, n = 1 := ⟨_, rfl⟩
    have hpos : 0 < n := by omega
    rw [← en] at AC
    have hn : n ≤ 4 := by omega
    refine K.callI_c (a := a41) [.ref a55] [.ref a41] 1 4 17 dMK_31 rfl rfl (wd13 hw) (wd14 hw) (wd11 hw) (wd15 hw) (by decide) (rmSI l Z a0 hw a41 a55 n c cs h69 n0 S73 S74 S75 S76 hcs E77 F78 F79 g44 AC (Nat.ne_of_gt lt_a41_a55) hpos hn hc) vv_t rfl (lenOf pd_19 rfl) rfl (Nat.le_of_eq rfl) (by decide) (by decide) rfl rfl (by decide) (by decide) (fun E K => (goU fun h80 q81 => ?_))
    obtain ⟨K82, S83⟩ := q81
    have K84 := K72.trans K82 (allS (Or.inr ks_a41) all0)
    have S85 := staK S73 K82 (allS (plE E77) all0)
    have S86 := staK S74 K82 (allS (plE E77) all0)
    have S87 := staK S75 K82 (allS (plE E77) all0)
    have S88 := staK S76 K82 (allS (plE E77) all0)
    have E89 := E77.keep K82
    have I90 := AC.keep K82 (ninS (Nat.ne_of_gt lt_a41_a55) nin0)
    subst en
    subst ec
    exact K.areturn dMK_34 rfl rfl rfl (by decide) (by decide) ⟨_, rfl, K84, S83⟩
  · refine K.iloadN dMK_0 rfl ?_
    refine K.if_ne dMK_1 (fun u => absurd u (by decide)) (fun _ => ?_)
    refine K.iloadN dMK_15 rfl ?_
    refine K.iconst (1 : Int32) dMK_16 rfl ?_
    refine K.ic_ne dMK_17 (fun u => absurd u (by decide)) (fun _ => ?_)
    refine K.iloadN dMK_35 rfl ?_
    refine K.iconst (2 : Int32) dMK_36 rfl ?_
    refine K.ic_ne dMK_37 (fun _ => ?_) (fun u => absurd (by decide) u)
    refine K.newO 1 4 dMK_40 (wd9 hw) (wd10 hw) (wd11 hw) rfl rfl (by decide) (by decide) (fun h92 a91 ha93 g94 X95 A96 D97 => ?_)
    have ks_a91 := ha_ge K1.1 ha93
    have K98 := K1.ext X95
    have S99 := PA.ext X95
    have S100 := PH.ext X95
    have S101 := PL.ext X95
    have S102 := PS.ext X95
    have F103 : Fld Z h92 a91 "java/lang/String" "value" "[B" .null := D97 (Or.inr (wd25 hw)) (ty := (.array .byte)) (by decide)
    have F104 : Fld Z h92 a91 "java/lang/String" "coder" "B" (.int (0 : Int32)) := D97 (Or.inr (wd26 hw)) (ty := .byte) (by decide)
    refine K.dup dMK_43 rfl ?_
    refine K.iconst (2 : Int32) dMK_44 rfl ?_
    refine K.newP (ty := .char) (dv := .int 0) 2 2 6 dMK_45 (wd12 hw) rfl rfl (by decide) (by decide) (by decide) rfl rfl (by decide) (by decide) (fun h106 a105 ha107 g108 X109 A110 => ?_)
    have ks_a105 := ha_ge K98.1 ha107
    have lt_a91_a105 : a91 < a105 := by rw [ha107]; exact A96.lt
    have K111 := K98.ext X109
    have S112 := S99.ext X109
    have S113 := S100.ext X109
    have S114 := S101.ext X109
    have S115 := S102.ext X109
    have E116 := A96.ext X109
    have F117 := F103.ext X109
    have F118 := F104.ext X109
    refine K.dup dMK_47 rfl ?_
    refine K.iconst (0 : Int32) dMK_48 rfl ?_
    refine K.iloadN dMK_49 rfl ?_
    refine K.castore dMK_50 A110 (by decide) (by decide) g108 (fun h119 W120 A121 => ?_)
    have K122 := K111.wr W120 (Or.inr ks_a105)
    have S123 := S112.wr W120
    have S124 := S113.wr W120
    have S125 := S114.wr W120
    have S126 := S115.wr W120
    have E127 := E116.wr W120
    have F128 := F117.other W120 (Or.inl (Nat.ne_of_lt lt_a91_a105))
    have F129 := F118.other W120 (Or.inl (Nat.ne_of_lt lt_a91_a105))
    refine K.dup dMK_51 rfl ?_
    refine K.iconst (1 : Int32) dMK_52 rfl ?_
    refine K.iloadN dMK_53 rfl ?_
    refine K.castore dMK_54 A121 (by decide) (by decide) g108 (fun h130 W131 A132 => ?_)
    have K133 := K122.wr W131 (Or.inr ks_a105)
    have S134 := S123.wr W131
    have S135 := S124.wr W131
    have S136 := S125.wr W131
    have S137 := S126.wr W131
    have E138 := E127.wr W131
    have F139 := F128.other W131 (Or.inl (Nat.ne_of_lt lt_a91_a105))
    have F140 := F129.other W131 (Or.inl (Nat.ne_of_lt lt_a91_a105))
    obtain ⟨c, ec⟩ : ∃ c, c = own_c c0 c1 c2 c3 := ⟨_, rfl⟩
    have hc : Sg c := ec ▸ own_csg hg0 hg1 hg2 hg3
    have AC : Ia Z h130 a105 .char (Int32.ofNat 2) (charsF c) := A132.congr (fun j j1 j2 => by subst ec; rcases own_four j1 (Int32.lt_of_lt_of_le j2 (by decide)) with rfl | rfl | rfl | rfl <;> first | exact congrArg Value.int (own_ic (by assumption)) | exact absurd j2 (by decide))
    obtain ⟨n, en⟩ : ∃ n : Nat, n = 2 := ⟨_, rfl⟩
    have hpos : 0 < n := by omega
    rw [← en] at AC
    have hn : n ≤ 4 := by omega
    refine K.callI_c (a := a91) [.ref a105] [.ref a91] 1 4 18 dMK_55 rfl rfl (wd13 hw) (wd14 hw) (wd11 hw) (wd15 hw) (by decide) (rmSI l Z a0 hw a91 a105 n c cs h130 n0 S134 S135 S136 S137 hcs E138 F139 F140 g94 AC (Nat.ne_of_gt lt_a91_a105) hpos hn hc) vv_t rfl (lenOf pd_19 rfl) rfl (Nat.le_of_eq rfl) (by decide) (by decide) rfl rfl (by decide) (by decide) (fun E K => (goU fun h141 q142 => ?_))
    obtain ⟨K143, S144⟩ := q142
    have K145 := K133.trans K143 (allS (Or.inr ks_a91) all0)
    have S146 := staK S134 K143 (allS (plE E138) all0)
    have S147 := staK S135 K143 (allS (plE E138) all0)
    have S148 := staK S136 K143 (allS (plE E138) all0)
    have S149 := staK S137 K143 (allS (plE E138) all0)
    have E150 := E138.keep K143
    have I151 := AC.keep K143 (ninS (Nat.ne_of_gt lt_a91_a105) nin0)
    subst en
    subst ec
    exact K.areturn dMK_58 rfl rfl rfl (by decide) (by decide) ⟨_, rfl, K145, S144⟩
  · refine K.iloadN dMK_0 rfl ?_
    refine K.if_ne dMK_1 (fun u => absurd u (by decide)) (fun _ => ?_)
    refine K.iloadN dMK_15 rfl ?_
    refine K.iconst (1 : Int32) dMK_16 rfl ?_
    refine K.ic_ne dMK_17 (fun u => absurd u (by decide)) (fun _ => ?_)
    refine K.iloadN dMK_35 rfl ?_
    refine K.iconst (2 : Int32) dMK_36 rfl ?_
    refine K.ic_ne dMK_37 (fun u => absurd u (by decide)) (fun _ => ?_)
    refine K.iloadN dMK_59 rfl ?_
    refine K.iconst (3 : Int32) dMK_60 rfl ?_
    refine K.ic_ne dMK_61 (fun _ => ?_) (fun u => absurd (by decide) u)
    refine K.newO 1 4 dMK_64 (wd9 hw) (wd10 hw) (wd11 hw) rfl rfl (by decide) (by decide) (fun h153 a152 ha154 g155 X156 A157 D158 => ?_)
    have ks_a152 := ha_ge K1.1 ha154
    have K159 := K1.ext X156
    have S160 := PA.ext X156
    have S161 := PH.ext X156
    have S162 := PL.ext X156
    have S163 := PS.ext X156
    have F164 : Fld Z h153 a152 "java/lang/String" "value" "[B" .null := D158 (Or.inr (wd25 hw)) (ty := (.array .byte)) (by decide)
    have F165 : Fld Z h153 a152 "java/lang/String" "coder" "B" (.int (0 : Int32)) := D158 (Or.inr (wd26 hw)) (ty := .byte) (by decide)
    refine K.dup dMK_67 rfl ?_
    refine K.iconst (3 : Int32) dMK_68 rfl ?_
    refine K.newP (ty := .char) (dv := .int 0) 3 2 7 dMK_69 (wd12 hw) rfl rfl (by decide) (by decide) (by decide) rfl rfl (by decide) (by decide) (fun h167 a166 ha168 g169 X170 A171 => ?_)
    have ks_a166 := ha_ge K159.1 ha168
    have lt_a152_a166 : a152 < a166 := by rw [ha168]; exact A157.lt
    have K172 := K159.ext X170
    have S173 := S160.ext X170
    have S174 := S161.ext X170
    have S175 := S162.ext X170
    have S176 := S163.ext X170
    have E177 := A157.ext X170
    have F178 := F164.ext X170
    have F179 := F165.ext X170
    refine K.dup dMK_71 rfl ?_
    refine K.iconst (0 : Int32) dMK_72 rfl ?_
    refine K.iloadN dMK_73 rfl ?_
    refine K.castore dMK_74 A171 (by decide) (by decide) g169 (fun h180 W181 A182 => ?_)
    have K183 := K172.wr W181 (Or.inr ks_a166)
    have S184 := S173.wr W181
    have S185 := S174.wr W181
    have S186 := S175.wr W181
    have S187 := S176.wr W181
    have E188 := E177.wr W181
    have F189 := F178.other W181 (Or.inl (Nat.ne_of_lt lt_a152_a166))
    have F190 := F179.other W181 (Or.inl (Nat.ne_of_lt lt_a152_a166))
    refine K.dup dMK_75 rfl ?_
    refine K.iconst (1 : Int32) dMK_76 rfl ?_
    refine K.iloadN dMK_77 rfl ?_
    refine K.castore dMK_78 A182 (by decide) (by decide) g169 (fun h191 W192 A193 => ?_)
    have K194 := K183.wr W192 (Or.inr ks_a166)
    have S195 := S184.wr W192
    have S196 := S185.wr W192
    have S197 := S186.wr W192
    have S198 := S187.wr W192
    have E199 := E188.wr W192
    have F200 := F189.other W192 (Or.inl (Nat.ne_of_lt lt_a152_a166))
    have F201 := F190.other W192 (Or.inl (Nat.ne_of_lt lt_a152_a166))
    refine K.dup dMK_79 rfl ?_
    refine K.iconst (2 : Int32) dMK_80 rfl ?_
    refine K.iloadN dMK_81 rfl ?_
    refine K.castore dMK_82 A193 (by decide) (by decide) g169 (fun h202 W203 A204 => ?_)
    have K205 := K194.wr W203 (Or.inr ks_a166)
    have S206 := S195.wr W203
    have S207 := S196.wr W203
    have S208 := S197.wr W203
    have S209 := S198.wr W203
    have E210 := E199.wr W203
    have F211 := F200.other W203 (Or.inl (Nat.ne_of_lt lt_a152_a166))
    have F212 := F201.other W203 (Or.inl (Nat.ne_of_lt lt_a152_a166))
    obtain ⟨c, ec⟩ : ∃ c, c = own_c c0 c1 c2 c3 := ⟨_, rfl⟩
    have hc : Sg c := ec ▸ own_csg hg0 hg1 hg2 hg3
    have AC : Ia Z h202 a166 .char (Int32.ofNat 3) (charsF c) := A204.congr (fun j j1 j2 => by subst ec; rcases own_four j1 (Int32.lt_of_lt_of_le j2 (by decide)) with rfl | rfl | rfl | rfl <;> first | exact congrArg Value.int (own_ic (by assumption)) | exact absurd j2 (by decide))
    obtain ⟨n, en⟩ : ∃ n : Nat, n = 3 := ⟨_, rfl⟩
    have hpos : 0 < n := by omega
    rw [← en] at AC
    have hn : n ≤ 4 := by omega
    refine K.callI_c (a := a152) [.ref a166] [.ref a152] 1 4 19 dMK_83 rfl rfl (wd13 hw) (wd14 hw) (wd11 hw) (wd15 hw) (by decide) (rmSI l Z a0 hw a152 a166 n c cs h202 n0 S206 S207 S208 S209 hcs E210 F211 F212 g155 AC (Nat.ne_of_gt lt_a152_a166) hpos hn hc) vv_t rfl (lenOf pd_19 rfl) rfl (Nat.le_of_eq rfl) (by decide) (by decide) rfl rfl (by decide) (by decide) (fun E K => (goU fun h213 q214 => ?_))
    obtain ⟨K215, S216⟩ := q214
    have K217 := K205.trans K215 (allS (Or.inr ks_a152) all0)
    have S218 := staK S206 K215 (allS (plE E210) all0)
    have S219 := staK S207 K215 (allS (plE E210) all0)
    have S220 := staK S208 K215 (allS (plE E210) all0)
    have S221 := staK S209 K215 (allS (plE E210) all0)
    have E222 := E210.keep K215
    have I223 := AC.keep K215 (ninS (Nat.ne_of_gt lt_a152_a166) nin0)
    subst en
    subst ec
    exact K.areturn dMK_86 rfl rfl rfl (by decide) (by decide) ⟨_, rfl, K217, S216⟩
  · refine K.iloadN dMK_0 rfl ?_
    refine K.if_ne dMK_1 (fun u => absurd u (by decide)) (fun _ => ?_)
    refine K.iloadN dMK_15 rfl ?_
    refine K.iconst (1 : Int32) dMK_16 rfl ?_
    refine K.ic_ne dMK_17 (fun u => absurd u (by decide)) (fun _ => ?_)
    refine K.iloadN dMK_35 rfl ?_
    refine K.iconst (2 : Int32) dMK_36 rfl ?_
    refine K.ic_ne dMK_37 (fun u => absurd u (by decide)) (fun _ => ?_)
    refine K.iloadN dMK_59 rfl ?_
    refine K.iconst (3 : Int32) dMK_60 rfl ?_
    refine K.ic_ne dMK_61 (fun u => absurd u (by decide)) (fun _ => ?_)
    refine K.newO 1 4 dMK_87 (wd9 hw) (wd10 hw) (wd11 hw) rfl rfl (by decide) (by decide) (fun h225 a224 ha226 g227 X228 A229 D230 => ?_)
    have ks_a224 := ha_ge K1.1 ha226
    have K231 := K1.ext X228
    have S232 := PA.ext X228
    have S233 := PH.ext X228
    have S234 := PL.ext X228
    have S235 := PS.ext X228
    have F236 : Fld Z h225 a224 "java/lang/String" "value" "[B" .null := D230 (Or.inr (wd25 hw)) (ty := (.array .byte)) (by decide)
    have F237 : Fld Z h225 a224 "java/lang/String" "coder" "B" (.int (0 : Int32)) := D230 (Or.inr (wd26 hw)) (ty := .byte) (by decide)
    refine K.dup dMK_90 rfl ?_
    refine K.iconst (4 : Int32) dMK_91 rfl ?_
    refine K.newP (ty := .char) (dv := .int 0) 4 2 8 dMK_92 (wd12 hw) rfl rfl (by decide) (by decide) (by decide) rfl rfl (by decide) (by decide) (fun h239 a238 ha240 g241 X242 A243 => ?_)
    have ks_a238 := ha_ge K231.1 ha240
    have lt_a224_a238 : a224 < a238 := by rw [ha240]; exact A229.lt
    have K244 := K231.ext X242
    have S245 := S232.ext X242
    have S246 := S233.ext X242
    have S247 := S234.ext X242
    have S248 := S235.ext X242
    have E249 := A229.ext X242
    have F250 := F236.ext X242
    have F251 := F237.ext X242
    refine K.dup dMK_94 rfl ?_
    refine K.iconst (0 : Int32) dMK_95 rfl ?_
    refine K.iloadN dMK_96 rfl ?_
    refine K.castore dMK_97 A243 (by decide) (by decide) g241 (fun h252 W253 A254 => ?_)
    have K255 := K244.wr W253 (Or.inr ks_a238)
    have S256 := S245.wr W253
    have S257 := S246.wr W253
    have S258 := S247.wr W253
    have S259 := S248.wr W253
    have E260 := E249.wr W253
    have F261 := F250.other W253 (Or.inl (Nat.ne_of_lt lt_a224_a238))
    have F262 := F251.other W253 (Or.inl (Nat.ne_of_lt lt_a224_a238))
    refine K.dup dMK_98 rfl ?_
    refine K.iconst (1 : Int32) dMK_99 rfl ?_
    refine K.iloadN dMK_100 rfl ?_
    refine K.castore dMK_101 A254 (by decide) (by decide) g241 (fun h263 W264 A265 => ?_)
    have K266 := K255.wr W264 (Or.inr ks_a238)
    have S267 := S256.wr W264
    have S268 := S257.wr W264
    have S269 := S258.wr W264
    have S270 := S259.wr W264
    have E271 := E260.wr W264
    have F272 := F261.other W264 (Or.inl (Nat.ne_of_lt lt_a224_a238))
    have F273 := F262.other W264 (Or.inl (Nat.ne_of_lt lt_a224_a238))
    refine K.dup dMK_102 rfl ?_
    refine K.iconst (2 : Int32) dMK_103 rfl ?_
    refine K.iloadN dMK_104 rfl ?_
    refine K.castore dMK_105 A265 (by decide) (by decide) g241 (fun h274 W275 A276 => ?_)
    have K277 := K266.wr W275 (Or.inr ks_a238)
    have S278 := S267.wr W275
    have S279 := S268.wr W275
    have S280 := S269.wr W275
    have S281 := S270.wr W275
    have E282 := E271.wr W275
    have F283 := F272.other W275 (Or.inl (Nat.ne_of_lt lt_a224_a238))
    have F284 := F273.other W275 (Or.inl (Nat.ne_of_lt lt_a224_a238))
    refine K.dup dMK_106 rfl ?_
    refine K.iconst (3 : Int32) dMK_107 rfl ?_
    refine K.iload dMK_108 rfl ?_
    refine K.castore dMK_110 A276 (by decide) (by decide) g241 (fun h285 W286 A287 => ?_)
    have K288 := K277.wr W286 (Or.inr ks_a238)
    have S289 := S278.wr W286
    have S290 := S279.wr W286
    have S291 := S280.wr W286
    have S292 := S281.wr W286
    have E293 := E282.wr W286
    have F294 := F283.other W286 (Or.inl (Nat.ne_of_lt lt_a224_a238))
    have F295 := F284.other W286 (Or.inl (Nat.ne_of_lt lt_a224_a238))
    obtain ⟨c, ec⟩ : ∃ c, c = own_c c0 c1 c2 c3 := ⟨_, rfl⟩
    have hc : Sg c := ec ▸ own_csg hg0 hg1 hg2 hg3
    have AC : Ia Z h285 a238 .char (Int32.ofNat 4) (charsF c) := A287.congr (fun j j1 j2 => by subst ec; rcases own_four j1 (Int32.lt_of_lt_of_le j2 (by decide)) with rfl | rfl | rfl | rfl <;> first | exact congrArg Value.int (own_ic (by assumption)) | exact absurd j2 (by decide))
    obtain ⟨n, en⟩ : ∃ n : Nat, n = 4 := ⟨_, rfl⟩
    have hpos : 0 < n := by omega
    rw [← en] at AC
    have hn : n ≤ 4 := by omega
    refine K.callI_c (a := a224) [.ref a238] [.ref a224] 1 4 20 dMK_111 rfl rfl (wd13 hw) (wd14 hw) (wd11 hw) (wd15 hw) (by decide) (rmSI l Z a0 hw a224 a238 n c cs h285 n0 S289 S290 S291 S292 hcs E293 F294 F295 g227 AC (Nat.ne_of_gt lt_a224_a238) hpos hn hc) vv_t rfl (lenOf pd_19 rfl) rfl (Nat.le_of_eq rfl) (by decide) (by decide) rfl rfl (by decide) (by decide) (fun E K => (goU fun h296 q297 => ?_))
    obtain ⟨K298, S299⟩ := q297
    have K300 := K288.trans K298 (allS (Or.inr ks_a224) all0)
    have S301 := staK S289 K298 (allS (plE E293) all0)
    have S302 := staK S290 K298 (allS (plE E293) all0)
    have S303 := staK S291 K298 (allS (plE E293) all0)
    have S304 := staK S292 K298 (allS (plE E293) all0)
    have E305 := E293.keep K298
    have I306 := AC.keep K298 (ninS (Nat.ne_of_gt lt_a224_a238) nin0)
    subst en
    subst ec
    exact K.areturn dMK_114 rfl rfl rfl (by decide) (by decide) ⟨_, rfl, K300, S299⟩
set_option maxRecDepth 65536 in
set_option maxHeartbeats 40000000 in
theorem rmCH (l : Launch) (Z : State) (a0 : Array Value) (hw : ∀ d ∈ tables_1, d.before a0 Z = true) (x : Int32) (h : Heap) (n0 : Nat)  : Pl.Con l Z ⟨"com/example/vestwright/vestwright/InputFilesIsUtf8PinLaw", "ch", "(I)C"⟩ method_2_code 2 (some .char) ({ frames := 0, cells := 0, slots := 0, locals := 0 } : Room) #[.int x] h n0 (fun vr h' => vr = some (.int (own_ch x)) ∧ h' = h) := by
  refine Pl.Con.of pnCH (fun m_ => efCH m_ x) (fun E K => ?_)
  refine K.iloadN dCH_0 rfl ?_
  refine K.bipush (16 : Int32) dCH_1 rfl ?_
  refine K.iushr dCH_3 ?_
  refine K.iconst (3 : Int32) dCH_4 rfl ?_
  refine K.iand dCH_5 ?_
  refine K.istoreN #[.val (.int x), .val (.int (((x.toUInt32 >>> ((16 : Int32) &&& 31).toUInt32).toInt32) &&& (3 : Int32)))] dCH_6 rfl ?_
  refine K.iloadN dCH_7 rfl ?_
  refine K.if_ne dCH_8 (fun hc1 => ?_) (fun hc1 => ?_)
  · refine K.ldcI dCH_11 (wd5 hw) ?_
    exact K.ireturn dCH_13 (Or.inr (Or.inr (Or.inr (Or.inl rfl)))) rfl (by decide) (by decide) ⟨by rw [own_ch, if_pos hc1], rfl⟩
  · refine K.iloadN dCH_14 rfl ?_
    refine K.iconst (1 : Int32) dCH_15 rfl ?_
    refine K.ic_ne dCH_16 (fun hc2 => ?_) (fun hc2 => ?_)
    · refine K.ldcI dCH_19 (wd129 hw) ?_
      refine K.iloadN dCH_21 rfl ?_
      refine K.bipush (8 : Int32) dCH_22 rfl ?_
      refine K.iushr dCH_24 ?_
      refine K.iconst (3 : Int32) dCH_25 rfl ?_
      refine K.iand dCH_26 ?_
      refine K.iadd dCH_27 ?_
      refine K.i2c dCH_28 ?_
      exact K.ireturn dCH_29 (Or.inr (Or.inr (Or.inr (Or.inl rfl)))) (own_nc (own_icr _)) (by decide) (by decide) ⟨by rw [own_ch, if_neg hc1, if_pos hc2], rfl⟩
    · refine K.iloadN dCH_30 rfl ?_
      refine K.i2c dCH_31 ?_
      exact K.ireturn dCH_32 (Or.inr (Or.inr (Or.inr (Or.inl rfl)))) (own_nc (own_icr _)) (by decide) (by decide) ⟨by rw [own_ch, if_neg hc1, if_neg hc2], rfl⟩
set_option maxRecDepth 65536 in
set_option maxHeartbeats 40000000 in
theorem rm0 (l : Launch) (Z : State) (a0 : Array Value) (hw : ∀ d ∈ tables_1, d.before a0 Z = true) (p q r s t cs : Int32) (sf : Value) (hsf : sf.isRef = true) (h : Heap) (n0 : Nat) (PA : Sta Z h "java/lang/StringUTF16" "$assertionsDisabled" "Z" (.int (1 : Int32))) (PH : Sta Z h "java/lang/StringUTF16" "HI_BYTE_SHIFT" "I" (.int (0 : Int32))) (PL : Sta Z h "java/lang/StringUTF16" "LO_BYTE_SHIFT" "I" (.int (8 : Int32))) (PF : Sta Z h "jdk/internal/util/Preconditions" "SIOOBE_FORMATTER" "Ljava/util/function/BiFunction;" sf) (PC : Sta Z h "java/lang/String" "COMPACT_STRINGS" "Z" (.int cs)) (hcs : ¬ cs = 0) (hold : Ext Z.heap h) (hheld : Jvm.Lit.constHeld Z "java/lang/String" 7) (hcw : Jvm.Lit.compactW.before a0 Z = true) : Con l Z x code maxLocals ret room_1 #[.int p, .int q, .int r, .int s, .int t] h n0 (fun v h' => v = some (.int 1)) (Vi Z) := by
  refine Con.ofC pn0 (fun m_ => ef0 m_ p q r s t) (fun E K => ?_)
  refine K.iloadN d0_0 rfl ?_
  refine K.ldcI d0_1 (wd0 hw) ?_
  refine K.iand d0_3 ?_
  refine K.iconst (5 : Int32) d0_4 rfl ?_
  refine K.irem d0_5 (by decide) ?_
  obtain ⟨n, en, hn⟩ := own_rem p 5 4 (by decide) (by decide)
  rw [en]
  refine K.istore #[.val (.int p), .val (.int q), .val (.int r), .val (.int s), .val (.int t), .val (.int (Int32.ofNat n)), .unset, .unset, .unset, .unset, .unset, .unset, .unset] d0_6 rfl ?_
  refine K.iloadN d0_8 rfl ?_
  refine K.callS_pl [.int q] [] 0 0 0 d0_9 (wd1 hw) (wd2 hw) (wd3 hw) (wd4 hw) (by decide) (rmCH l Z a0 hw q h n0) (fun _ _ _ u => u) rfl (lenOf pd_20 rfl) rfl (Nat.le_of_eq rfl) (by decide) (by decide) rfl rfl (by decide) (by decide) ?_
  refine K.istore #[.val (.int p), .val (.int q), .val (.int r), .val (.int s), .val (.int t), .val (.int (Int32.ofNat n)), .val (.int (own_ch q)), .unset, .unset, .unset, .unset, .unset, .unset] d0_12 rfl ?_
  refine K.iloadN d0_14 rfl ?_
  refine K.callS_pl [.int r] [] 0 0 0 d0_15 (wd1 hw) (wd2 hw) (wd3 hw) (wd4 hw) (by decide) (rmCH l Z a0 hw r h n0) (fun _ _ _ u => u) rfl (lenOf pd_20 rfl) rfl (Nat.le_of_eq rfl) (by decide) (by decide) rfl rfl (by decide) (by decide) ?_
  refine K.istore #[.val (.int p), .val (.int q), .val (.int r), .val (.int s), .val (.int t), .val (.int (Int32.ofNat n)), .val (.int (own_ch q)), .val (.int (own_ch r)), .unset, .unset, .unset, .unset, .unset] d0_18 rfl ?_
  refine K.iloadN d0_20 rfl ?_
  refine K.callS_pl [.int s] [] 0 0 0 d0_21 (wd1 hw) (wd2 hw) (wd3 hw) (wd4 hw) (by decide) (rmCH l Z a0 hw s h n0) (fun _ _ _ u => u) rfl (lenOf pd_20 rfl) rfl (Nat.le_of_eq rfl) (by decide) (by decide) rfl rfl (by decide) (by decide) ?_
  refine K.istore #[.val (.int p), .val (.int q), .val (.int r), .val (.int s), .val (.int t), .val (.int (Int32.ofNat n)), .val (.int (own_ch q)), .val (.int (own_ch r)), .val (.int (own_ch s)), .unset, .unset, .unset, .unset] d0_24 rfl ?_
  refine K.iload d0_26 rfl ?_
  refine K.callS_pl [.int t] [] 0 0 0 d0_28 (wd1 hw) (wd2 hw) (wd3 hw) (wd4 hw) (by decide) (rmCH l Z a0 hw t h n0) (fun _ _ _ u => u) rfl (lenOf pd_20 rfl) rfl (Nat.le_of_eq rfl) (by decide) (by decide) rfl rfl (by decide) (by decide) ?_
  refine K.istore #[.val (.int p), .val (.int q), .val (.int r), .val (.int s), .val (.int t), .val (.int (Int32.ofNat n)), .val (.int (own_ch q)), .val (.int (own_ch r)), .val (.int (own_ch s)), .val (.int (own_ch t)), .unset, .unset, .unset] d0_31 rfl ?_
  refine K.iload d0_33 rfl ?_
  refine K.iload d0_35 rfl ?_
  refine K.iload d0_37 rfl ?_
  refine K.iload d0_39 rfl ?_
  refine K.iload d0_41 rfl ?_
  refine K.callS_c [.int (Int32.ofNat n), .int (own_ch q), .int (own_ch r), .int (own_ch s), .int (own_ch t)] [] 0 4 20 d0_43 (wd6 hw) (wd7 hw) (wd3 hw) (wd8 hw) (by decide) (rmMK l Z a0 hw n (own_ch q) (own_ch r) (own_ch s) (own_ch t) cs h n0 PA PH PL PC hcs hold hheld hcw hn (own_chr _) (own_chr _) (own_chr _) (own_chr _)) vv_c rfl (lenOf pd_21 rfl) rfl (Nat.le_of_eq rfl) (by decide) (by decide) rfl rfl (by decide) (by decide) (fun E K => (goR fun t1 h2 q3 => ?_))
  obtain ⟨K4, S5⟩ := q3
  have S6 := staK PA K4 all0
  have S7 := staK PH K4 all0
  have S8 := staK PL K4 all0
  have S9 := staK PF K4 all0
  have S10 := staK PC K4 all0
  refine K.astore #[.val (.int p), .val (.int q), .val (.int r), .val (.int s), .val (.int t), .val (.int (Int32.ofNat n)), .val (.int (own_ch q)), .val (.int (own_ch r)), .val (.int (own_ch s)), .val (.int (own_ch t)), .val (.ref t1), .unset, .unset] d0_46 rfl rfl ?_
  obtain ⟨c, ec⟩ : ∃ c, c = own_c (own_ch q) (own_ch r) (own_ch s) (own_ch t) := ⟨_, rfl⟩
  have hc : Sg c := ec ▸ own_csg (own_chr _) (own_chr _) (own_chr _) (own_chr _)
  rw [← ec] at S5
  have e0 : c 0 = own_ch q := by rw [ec]; rfl
  have e1 : c 1 = own_ch r := by rw [ec]; rfl
  have e2 : c 2 = own_ch s := by rw [ec]; rfl
  have e3 : c 3 = own_ch t := by rw [ec]; rfl
  have H0 : ∀ j, j < 0 → j < n → c j ≠ 65533 := fun j hj => absurd hj (by omega)
  refine cut (P := ∀ z : Int32, (z = 1 ∧ (∃ i, i < n ∧ c i = 65533) ∨ z = 0 ∧ ∀ i, i < n → c i ≠ 65533) → Wk E h2 4 20 104 #[.val (.int p), .val (.int q), .val (.int r), .val (.int s), .val (.int t), .val (.int (Int32.ofNat n)), .val (.int (own_ch q)), .val (.int (own_ch r)), .val (.int (own_ch s)), .val (.int (own_ch t)), .val (.ref t1), .unset, .unset] [.int z]) (fun J11 => ?_) ?_
  · refine cut (P := (∀ j, j < 1 → j < n → c j ≠ 65533) → Wk E h2 4 20 60 #[.val (.int p), .val (.int q), .val (.int r), .val (.int s), .val (.int t), .val (.int (Int32.ofNat n)), .val (.int (own_ch q)), .val (.int (own_ch r)), .val (.int (own_ch s)), .val (.int (own_ch t)), .val (.ref t1), .unset, .unset] []) (fun J1 => ?_) ?_
    · refine K.iload d0_48 rfl ?_
      refine K.if_le d0_50 (fun hc12 => ?_) (fun hc12 => ?_)
      · have hk : 0 < n := (own_lt (i := 0) (by decide) (by omega)).mp hc12
        refine K.iload d0_53 rfl ?_
        refine K.ldcI d0_55 (wd5 hw) ?_
        refine K.ic_eq d0_57 (fun hc13 => ?_) (fun hc13 => ?_)
        · refine K.iconst (1 : Int32) d0_99 rfl ?_
          refine K.goto d0_100 ?_
          exact J11 _ (Or.inl ⟨rfl, 0, hk, by rw [e0]; exact hc13⟩)
        · exact J1 (fun j q1 q2 => by rcases Nat.lt_succ_iff_lt_or_eq.mp q1 with q | rfl; exact H0 j q q2; rw [e0]; exact hc13)
      · exact J1 (fun j q1 q2 => H0 j (by have := (show ¬ 0 < n from fun u => hc12 ((own_lt (i := 0) (by decide) (by omega)).mpr u)); omega) q2)
    intro H1
    refine cut (P := (∀ j, j < 2 → j < n → c j ≠ 65533) → Wk E h2 4 20 73 #[.val (.int p), .val (.int q), .val (.int r), .val (.int s), .val (.int t), .val (.int (Int32.ofNat n)), .val (.int (own_ch q)), .val (.int (own_ch r)), .val (.int (own_ch s)), .val (.int (own_ch t)), .val (.ref t1), .unset, .unset] []) (fun J2 => ?_) ?_
    · refine K.iload d0_60 rfl ?_
      refine K.iconst (1 : Int32) d0_62 rfl ?_
      refine K.ic_le d0_63 (fun hc14 => ?_) (fun hc14 => ?_)
      · have hk : 1 < n := (own_lt (i := 1) (by decide) (by omega)).mp hc14
        refine K.iload d0_66 rfl ?_
        refine K.ldcI d0_68 (wd5 hw) ?_
        refine K.ic_eq d0_70 (fun hc15 => ?_) (fun hc15 => ?_)
        · refine K.iconst (1 : Int32) d0_99 rfl ?_
          refine K.goto d0_100 ?_
          exact J11 _ (Or.inl ⟨rfl, 1, hk, by rw [e1]; exact hc15⟩)
        · exact J2 (fun j q1 q2 => by rcases Nat.lt_succ_iff_lt_or_eq.mp q1 with q | rfl; exact H1 j q q2; rw [e1]; exact hc15)
      · exact J2 (fun j q1 q2 => H1 j (by have := (show ¬ 1 < n from fun u => hc14 ((own_lt (i := 1) (by decide) (by omega)).mpr u)); omega) q2)
    intro H2
    refine cut (P := (∀ j, j < 3 → j < n → c j ≠ 65533) → Wk E h2 4 20 86 #[.val (.int p), .val (.int q), .val (.int r), .val (.int s), .val (.int t), .val (.int (Int32.ofNat n)), .val (.int (own_ch q)), .val (.int (own_ch r)), .val (.int (own_ch s)), .val (.int (own_ch t)), .val (.ref t1), .unset, .unset] []) (fun J3 => ?_) ?_
    · refine K.iload d0_73 rfl ?_
      refine K.iconst (2 : Int32) d0_75 rfl ?_
      refine K.ic_le d0_76 (fun hc16 => ?_) (fun hc16 => ?_)
      · have hk : 2 < n := (own_lt (i := 2) (by decide) (by omega)).mp hc16
        refine K.iload d0_79 rfl ?_
        refine K.ldcI d0_81 (wd5 hw) ?_
        refine K.ic_eq d0_83 (fun hc17 => ?_) (fun hc17 => ?_)
        · refine K.iconst (1 : Int32) d0_99 rfl ?_
          refine K.goto d0_100 ?_
          exact J11 _ (Or.inl ⟨rfl, 2, hk, by rw [e2]; exact hc17⟩)
        · exact J3 (fun j q1 q2 => by rcases Nat.lt_succ_iff_lt_or_eq.mp q1 with q | rfl; exact H2 j q q2; rw [e2]; exact hc17)
      · exact J3 (fun j q1 q2 => H2 j (by have := (show ¬ 2 < n from fun u => hc16 ((own_lt (i := 2) (by decide) (by omega)).mpr u)); omega) q2)
    intro H3
    refine K.iload d0_86 rfl ?_
    refine K.iconst (3 : Int32) d0_88 rfl ?_
    refine K.ic_le d0_89 (fun hc18 => ?_) (fun hc18 => ?_)
    · have hk : 3 < n := (own_lt (i := 3) (by decide) (by omega)).mp hc18
      refine K.iload d0_92 rfl ?_
      refine K.ldcI d0_94 (wd5 hw) ?_
      refine K.ic_ne d0_96 (fun hc19 => ?_) (fun hc19 => ?_)
      · refine K.iconst (1 : Int32) d0_99 rfl ?_
        refine K.goto d0_100 ?_
        exact J11 _ (Or.inl ⟨rfl, 3, hk, by rw [e3]; exact hc19⟩)
      · refine K.iconst (0 : Int32) d0_103 rfl ?_
        exact J11 _ (Or.inr ⟨rfl, fun j hj => (show ∀ j, j < 4 → j < n → c j ≠ 65533 from fun j q1 q2 => by rcases Nat.lt_succ_iff_lt_or_eq.mp q1 with q | rfl; exact H3 j q q2; rw [e3]; exact hc19) j (by omega) hj⟩)
    · refine K.iconst (0 : Int32) d0_103 rfl ?_
      exact J11 _ (Or.inr ⟨rfl, fun j hj => (show ∀ j, j < 4 → j < n → c j ≠ 65533 from (fun j q1 q2 => H3 j (by have := (show ¬ 3 < n from fun u => hc18 ((own_lt (i := 3) (by decide) (by omega)).mpr u)); omega) q2)) j (by omega) hj⟩)
  intro z hz
  refine K.istore #[.val (.int p), .val (.int q), .val (.int r), .val (.int s), .val (.int t), .val (.int (Int32.ofNat n)), .val (.int (own_ch q)), .val (.int (own_ch r)), .val (.int (own_ch s)), .val (.int (own_ch t)), .val (.ref t1), .val (.int z), .unset] d0_104 rfl ?_
  refine K.iload d0_106 rfl ?_
  refine cut (P := ∀ z20 : Int32, z20 = (if z = 0 then 1 else 0) → Wk E h2 4 20 116 #[.val (.int p), .val (.int q), .val (.int r), .val (.int s), .val (.int t), .val (.int (Int32.ofNat n)), .val (.int (own_ch q)), .val (.int (own_ch r)), .val (.int (own_ch s)), .val (.int (own_ch t)), .val (.ref t1), .val (.int z), .unset] [.int z20]) (fun J21 => ?_) ?_
  · refine K.if_ne d0_108 (fun hc22 => ?_) (fun hc22 => ?_)
    · refine K.iconst (1 : Int32) d0_111 rfl ?_
      refine K.goto d0_112 ?_
      exact J21 _ (if_pos hc22).symm
    · refine K.iconst (0 : Int32) d0_115 rfl ?_
      exact J21 _ (if_neg hc22).symm
  intro z20 hz20
  refine K.istore #[.val (.int p), .val (.int q), .val (.int r), .val (.int s), .val (.int t), .val (.int (Int32.ofNat n)), .val (.int (own_ch q)), .val (.int (own_ch r)), .val (.int (own_ch s)), .val (.int (own_ch t)), .val (.ref t1), .val (.int z), .val (.int z20)] d0_116 rfl ?_
  refine K.aload d0_118 rfl rfl ?_
  refine K.callS [.ref t1] [] 0 4 20 d0_120 (wd31 hw) (wd32 hw) (wd33 hw) (wd34 hw) (by decide) (rmIS l Z a0 hw t1 n c cs sf hsf h2 n0 S6 S7 S8 S9 S10 hcs S5 hn hc) rfl (lenOf pd_22 rfl) rfl (Nat.le_of_eq rfl) (by decide) (by decide) rfl rfl (by decide) (by decide) (goIs fun z23 q24 => ?_)
  refine K.iload d0_123 rfl ?_
  refine K.ic_ne d0_125 (fun _ => ?_) (fun u => absurd (own_final q24 hz hz20) u)
  refine K.iconst (1 : Int32) d0_128 rfl ?_
  refine K.goto d0_129 ?_
  exact K.ireturn d0_133 (Or.inr (Or.inl rfl)) rfl (by decide) (by decide) rfl
set_option maxRecDepth 65536 in
set_option maxHeartbeats 40000000 in
theorem comes_1 {Post : Tables → Env → Array Value → State → Outcome → State → Prop} (hpost : ∀ tb e args s v u, (limb_1_1.after args s (.returned v) u = true ∧ limb_1_2.after args s (.returned v) u = true ∧ True) → ReturnedEndW s (.returned v) u (Jvm.fieldLocs frame_1_writes args s ++ Jvm.arrayLocs frame_1_arrays args s ++ Jvm.staticLocs frame_1_statics s) 24 1152 → Post tb e args s (.returned v) u) :
    ArmFor flags0 classFile x code maxLocals ret World_1 tables_1 room_1 Calls_1 rest_1 Pre_1 Post := by
  intro l hfl _ _ p e ha hc hk s m args below hf hA hF happ hP
  obtain ⟨hcalls, hrest, hpre⟩ := hP
  obtain ⟨-, -, -, hnamed, -, -, -, hat⟩ := (Spec.applies_iff hf).mp happ
  obtain ⟨hg, hn⟩ := and_e (Cond.before_iff.mp (show (Jvm.Cond.and given_1 narrow_1).before args s = true from hpre))
  obtain ⟨hcount, hk0⟩ := and_e hg
  obtain ⟨ha0, hk1⟩ := and_e hk0
  obtain ⟨ha1, hk2⟩ := and_e hk1
  obtain ⟨ha2, hk3⟩ := and_e hk2
  obtain ⟨ha3, hk4⟩ := and_e hk3
  obtain ⟨w0, w1, w2, w3, w4, rfl⟩ : ∃ w0 w1 w2 w3 w4 : Value, args = #[w0, w1, w2, w3, w4] := by
    have hs : args.size = 5 := by simpa [Cond.value, given_1] using hcount
    obtain ⟨L⟩ := args
    match L, hs with
    | [w0, w1, w2, w3, w4], _ => exact ⟨w0, w1, w2, w3, w4, rfl⟩
  have hw := fun d (hd : d ∈ tables_1) => atoms_spec (ws := Jvm.Cond.code x code maxLocals ret :: tables_1) hat d (List.mem_cons_of_mem _ hd)
  obtain ⟨i0, e0⟩ := is_v ha0
  obtain rfl : w0 = (.int i0) := Option.some.inj e0
  obtain ⟨i1, e1⟩ := is_v ha1
  obtain rfl : w1 = (.int i1) := Option.some.inj e1
  obtain ⟨i2, e2⟩ := is_v ha2
  obtain rfl : w2 = (.int i2) := Option.some.inj e2
  obtain ⟨i3, e3⟩ := is_v ha3
  obtain rfl : w3 = (.int i3) := Option.some.inj e3
  obtain ⟨i4, e4⟩ := is_v hk4
  obtain rfl : w4 = (.int i4) := Option.some.inj e4
  obtain ⟨hsets, hown0⟩ := atoms_of _ (rest_1_c_eq ▸ (show rest_1_c.before _ s = true from hrest))
  obtain ⟨cs, ecs⟩ := is_v (Cond.before_iff.mp (hsets _ (List.mem_of_getElem? (i := 1) rfl)))
  have PC : Sta s s.heap "java/lang/String" "COMPACT_STRINGS" "Z" (.int cs) := Sta.start ecs (Or.inl (hsets _ (List.mem_of_getElem? (i := 0) rfl)))
  have hcs : ¬ (cs = (0 : Int32)) := gotF (Cond.eq_ints ecs (Term.int_eval (0))) (not_v (Cond.before_iff.mp (hsets _ (List.mem_of_getElem? (i := 2) rfl))))
  obtain ⟨sf, esf, hsf⟩ := isR_v (Cond.before_iff.mp (hsets _ (List.mem_of_getElem? (i := 8) rfl)))
  have PF : Sta s s.heap "jdk/internal/util/Preconditions" "SIOOBE_FORMATTER" "Ljava/util/function/BiFunction;" sf := Sta.start esf (Or.inl (hsets _ (List.mem_of_getElem? (i := 7) rfl)))
  have PA : Sta s s.heap "java/lang/StringUTF16" "$assertionsDisabled" "Z" (.int (1 : Int32)) := Sta.start (eqv_i (Term.int_eval (1)) (Cond.before_iff.mp (hsets _ (List.mem_of_getElem? (i := 12) rfl)))) (Or.inl (hsets _ (List.mem_of_getElem? (i := 11) rfl)))
  have PH : Sta s s.heap "java/lang/StringUTF16" "HI_BYTE_SHIFT" "I" (.int (0 : Int32)) := Sta.start (eqv_i (Term.int_eval (0)) (Cond.before_iff.mp (hsets _ (List.mem_of_getElem? (i := 15) rfl)))) (Or.inl (hsets _ (List.mem_of_getElem? (i := 14) rfl)))
  have PL : Sta s s.heap "java/lang/StringUTF16" "LO_BYTE_SHIFT" "I" (.int (8 : Int32)) := Sta.start (eqv_i (Term.int_eval (8)) (Cond.before_iff.mp (hsets _ (List.mem_of_getElem? (i := 18) rfl)))) (Or.inl (hsets _ (List.mem_of_getElem? (i := 17) rfl)))
  have hheld : Jvm.Lit.constHeld s "java/lang/String" 7 := hcalls.1 ("java/lang/String", 7) (List.mem_singleton.mpr rfl)
  have hold : Ext s.heap s.heap := ⟨Nat.le_refl _, fun _ _ q => q⟩
  obtain ⟨n, o, h1, h2, h3, _, L, rfl, ⟨rfl, N⟩, hq⟩ := rm0 l s _ hw i0 i1 i2 i3 i4 cs sf hsf s.heap s.heap.size PA PH PL PF PC hcs hold hheld ((hsets _ (List.mem_of_getElem? (i := 2) rfl))) (Nat.le_refl _) tables_1 p e ha hc hk s m _ below hf ((Spec.applies_iff_loose hf).mp happ).1 ⟨rfl, State.Warmed39.refl s, rfl, rfl⟩ trivial
  refine ⟨n, _, h1, h2, h3, hpost _ _ _ _ _ _ ⟨Cond.after_iff.mpr rfl, Cond.after_iff.mpr (eq_i res_at (Term.int_eval (1)) rfl), trivial⟩ ⟨hq.1, hq.2.1, hq.2.2.1, (hq.2.2.2.sift fun y hy => Or.inr (N y hy)).mono (by decide) (by decide)⟩⟩
theorem main_1_1 : Claimed_1_1 := comes_1 fun _ _ _ _ _ _ h hF => ⟨h.1, hF⟩
theorem main_1_2 : Claimed_1_2 := comes_1 fun _ _ _ _ _ _ h hF => ⟨h.2.1, hF⟩
end Jvm.Pilot.@@N@@
namespace Jvm.Pilot.@@N@@
open Jvm Jvm.ClassFile Sem Op Lib Jvm.Free Jvm.Stand Jvm.Pilot.@@N@@.Jvm.D
/-! MADE BY PROGRAM (witnessworld.py) out of the Statement's table words and the real class files: 21 classes; the members and pool entries that the words name. The judged class is class 1, her method 3. -/
namespace start1
open Jvm.ClassFile
def u (s : String) : CpInfo := .utf8 (stringToUtf16 s)
/-- a pool by its gaps: so many unusable entries, then the entry; so many at the end -/
def gap : Nat → List CpInfo → List CpInfo
  | 0, r => r
  | n + 1, r => .unusable :: gap n r
def poolList (es : List (Nat × CpInfo)) (last : Nat) : List CpInfo := es.foldr (fun e r => gap e.1 (e.2 :: r)) (gap last [])
def pool (es : List (Nat × CpInfo)) (last : Nat) : Array CpInfo := ⟨poolList es last⟩
def fileOf (pool : Array CpInfo) (this : Nat) (attrs : Array Attribute := #[]) (ms : Array MethodInfo := #[]) (fl : Nat := 33) (sup : Nat := 0) (ifs : Array Nat := #[]) (fds : Array FieldInfo := #[]) : ClassFile where
  minorVersion := 0
  majorVersion := 65
  constantPool := pool
  accessFlags := fl
  thisClass := this
  superClass := sup
  interfaces := ifs
  fields := fds
  methods := ms
  attributes := attrs
def plain (name : String) (sup : Option ClassId) : Class where
  name := name
  kind := .ordinary
  loader := none
  accessFlags := 33
  super := sup
  interfaces := #[]
  cf := none
  fields := #[]
  methods := #[]
  instanceTypes := #[]
  staticTypes := #[]
  resolved := #[]
  callSites := []
  init := .initialized
  statics := none
  mirror := none

def pool0 : Array CpInfo := pool [(5, u "<init>"), (0, u "()V"), (1, .class_ 10), (1, u "java/lang/Object")] 113

def k0c0 : Code := { maxStack := 0, maxLocals := 1, code := object_method_1_code, exceptionTable := #[], attributes := #[] }
def k0m0 : Method := { name := "<init>", desc := "()V", sig := { parameters := [], returnType := none }, accessFlags := 1, code := some k0c0 }
/-- java/lang/Object -/
def k0 : Class := { plain "java/lang/Object" none with
  accessFlags := 33
  interfaces := #[]
  cf := some (fileOf pool0 8 #[] #[{ accessFlags := 1, nameIndex := 5, descriptorIndex := 6, attributes := #[] }] 33 0 #[] #[])
  fields := #[]
  methods := #[k0m0]
  instanceTypes := #[]
  staticTypes := #[]
  resolved := Array.replicate 124 none
  statics := none }

def pool1 : Array CpInfo := pool [(2, .class_ 4), (1, u "java/lang/Object"), (0, u "<init>"), (0, u "()V"), (0, .integer 65533), (0, .integer 65532), (0, .class_ 10), (0, u "java/lang/String"), (0, .methodref 9 12), (0, .nameAndType 5 13), (0, u "([C)V"), (0, .integer 2147483647), (0, .methodref 16 17), (0, .class_ 18), (0, .nameAndType 19 20), (0, u "com/example/vestwright/vestwright/InputFilesIsUtf8PinLaw"), (0, u "ch"), (0, u "(I)C"), (0, .methodref 16 22), (0, .nameAndType 23 24), (0, u "make"), (0, u "(ICCCC)Ljava/lang/String;"), (0, .methodref 26 27), (0, .class_ 28), (0, .nameAndType 29 30), (0, u "com/example/vestwright/vestwright/InputFiles"), (0, u "isUtf8"), (0, u "(Ljava/lang/String;)Z"), (3, u "law"), (0, u "(IIIII)Z")] 2

def k1m0 : Method := { name := "<init>", desc := "()V", sig := { parameters := [], returnType := none }, accessFlags := 2, code := none }
def k1c1 : Code := { maxStack := 3, maxLocals := 2, code := method_2_code, exceptionTable := #[], attributes := #[] }
def k1m1 : Method := { name := "ch", desc := "(I)C", sig := { parameters := [.int], returnType := some .char }, accessFlags := 10, code := some k1c1 }
def k1c2 : Code := { maxStack := 6, maxLocals := 5, code := method_3_code, exceptionTable := #[], attributes := #[] }
def k1m2 : Method := { name := "make", desc := "(ICCCC)Ljava/lang/String;", sig := { parameters := [.int, .char, .char, .char, .char], returnType := some (.object "java/lang/String") }, accessFlags := 10, code := some k1c2 }
def k1c3 : Code := { maxStack := 5, maxLocals := 13, code := code, exceptionTable := #[], attributes := #[] }
def k1m3 : Method := { name := "law", desc := "(IIIII)Z", sig := { parameters := [.int, .int, .int, .int, .int], returnType := some .boolean }, accessFlags := 9, code := some k1c3 }
/-- com/example/vestwright/vestwright/InputFilesIsUtf8PinLaw -/
def k1 : Class := { plain "com/example/vestwright/vestwright/InputFilesIsUtf8PinLaw" (some 0) with
  accessFlags := 49
  interfaces := #[]
  cf := some (fileOf pool1 16 #[] #[{ accessFlags := 2, nameIndex := 5, descriptorIndex := 6, attributes := #[] }, { accessFlags := 10, nameIndex := 19, descriptorIndex := 20, attributes := #[] }, { accessFlags := 10, nameIndex := 23, descriptorIndex := 24, attributes := #[] }, { accessFlags := 9, nameIndex := 34, descriptorIndex := 35, attributes := #[] }] 49 2 #[] #[])
  fields := #[]
  methods := #[k1m0, k1m1, k1m2, k1m3]
  instanceTypes := #[]
  staticTypes := #[]
  resolved := Array.replicate 38 none
  statics := none }

def pool2 : Array CpInfo := pool [(1, .class_ 2), (0, u "java/io/Serializable"), (0, .class_ 4), (0, u "java/lang/Object")] 2

/-- java/io/Serializable -/
def k2 : Class := { plain "java/io/Serializable" (some 0) with
  accessFlags := 1537
  interfaces := #[]
  cf := some (fileOf pool2 1 #[] #[] 1537 3 #[] #[])
  fields := #[]
  methods := #[]
  instanceTypes := #[]
  staticTypes := #[]
  resolved := Array.replicate 7 none
  statics := none }

def pool3 : Array CpInfo := pool [(1, .class_ 2), (0, u "java/lang/Comparable"), (0, .class_ 4), (0, u "java/lang/Object")] 7

/-- java/lang/Comparable -/
def k3 : Class := { plain "java/lang/Comparable" (some 0) with
  accessFlags := 1537
  interfaces := #[]
  cf := some (fileOf pool3 1 #[] #[] 1537 3 #[] #[])
  fields := #[]
  methods := #[]
  instanceTypes := #[]
  staticTypes := #[]
  resolved := Array.replicate 12 none
  statics := none }

def pool4 : Array CpInfo := pool [(2, .class_ 4), (1, u "java/lang/CharSequence"), (42, .class_ 48), (0, u "java/lang/CharSequence$1CodePointIterator"), (10, .class_ 60), (0, u "java/lang/CharSequence$1CharIterator"), (5, .class_ 67), (0, u "java/lang/Object")] 63

/-- java/lang/CharSequence -/
def k4 : Class := { plain "java/lang/CharSequence" (some 0) with
  accessFlags := 1537
  interfaces := #[]
  cf := some (fileOf pool4 2 #[.nestMembers #[47, 59]] #[] 1537 66 #[] #[])
  fields := #[]
  methods := #[]
  instanceTypes := #[]
  staticTypes := #[]
  resolved := Array.replicate 131 none
  statics := none }

def pool5 : Array CpInfo := pool [(1, .class_ 2), (0, u "java/lang/constant/Constable"), (0, .class_ 4), (0, u "java/lang/Object")] 6

/-- java/lang/constant/Constable -/
def k5 : Class := { plain "java/lang/constant/Constable" (some 0) with
  accessFlags := 1537
  interfaces := #[]
  cf := some (fileOf pool5 1 #[] #[] 1537 3 #[] #[])
  fields := #[]
  methods := #[]
  instanceTypes := #[]
  staticTypes := #[]
  resolved := Array.replicate 11 none
  statics := none }

def pool6 : Array CpInfo := pool [(1, .class_ 2), (0, u "java/lang/constant/ConstantDesc"), (0, .class_ 4), (0, u "java/lang/Object")] 32

/-- java/lang/constant/ConstantDesc -/
def k6 : Class := { plain "java/lang/constant/ConstantDesc" (some 0) with
  accessFlags := 1537
  interfaces := #[]
  cf := some (fileOf pool6 1 #[] #[] 1537 3 #[] #[])
  fields := #[]
  methods := #[]
  instanceTypes := #[]
  staticTypes := #[]
  resolved := Array.replicate 37 none
  statics := none }

def pool7 : Array CpInfo := pool [(1, .methodref 2 3), (0, .class_ 4), (0, .nameAndType 5 6), (0, u "java/lang/Object"), (0, u "<init>"), (0, u "()V"), (0, .string 8), (0, u ""), (0, .fieldref 10 11), (0, .class_ 12), (0, .nameAndType 13 14), (0, u "java/lang/String"), (0, u "value"), (0, u "[B"), (0, .fieldref 10 16), (0, .nameAndType 17 18), (0, u "coder"), (0, u "B"), (2, u "hash"), (0, u "I"), (2, u "hashIsZero"), (0, u "Z"), (0, .methodref 10 28), (0, .nameAndType 5 29), (0, u "([CIILjava/lang/Void;)V"), (8, .fieldref 10 39), (0, .nameAndType 40 26), (0, u "COMPACT_STRINGS"), (1, .class_ 44), (1, u "java/lang/StringUTF16"), (0, u "compress"), (1, .methodref 42 48), (0, .nameAndType 49 50), (0, u "coderFromArrayLen"), (0, u "([BI)B"), (56, .class_ 109), (1, u "java/lang/StringLatin1"), (32, u "()Z"), (34, .methodref 42 178), (0, .nameAndType 45 179), (0, u "([CII)[B"), (154, u "()I"), (0, .methodref 10 336), (0, .nameAndType 17 337), (0, u "()B"), (154, .methodref 10 493), (0, .nameAndType 494 142), (0, u "isLatin1"), (10, .methodref 10 506), (0, .nameAndType 507 334), (0, u "length"), (5, u "checkFromToIndex"), (9, u "checkBoundsBeginEnd"), (0, u "(III)V"), (50, .class_ 576), (0, u "java/lang/CharSequence"), (22, u "CASE_INSENSITIVE_ORDER"), (0, u "Ljava/util/Comparator;"), (32, .methodref 10 634), (0, .nameAndType 635 636), (0, u "indexOf"), (0, u "(II)I"), (0, .methodref 107 638), (0, .nameAndType 635 639), (0, u "([BIII)I"), (0, .methodref 42 638), (124, u "(I)I"), (244, u "([C)V"), (42, .fieldref 1054 1055), (0, .class_ 1056), (0, .nameAndType 1057 1058), (0, u "jdk/internal/util/Preconditions"), (0, u "SIOOBE_FORMATTER"), (0, u "Ljava/util/function/BiFunction;"), (3, .methodref 1054 1063), (0, .nameAndType 513 1064), (0, u "(IIILjava/util/function/BiFunction;)I"), (36, u "serialPersistentFields"), (0, u "[Ljava/io/ObjectStreamField;"), (0, .class_ 1104), (0, u "java/lang/String$CaseInsensitiveComparator"), (1, .class_ 1107), (0, u "java/io/Serializable"), (0, .class_ 1109), (0, u "java/lang/Comparable"), (0, .class_ 1111), (0, u "java/lang/constant/Constable"), (0, .class_ 1113), (0, u "java/lang/constant/ConstantDesc"), (2, u "serialVersionUID"), (0, u "J"), (3, u "REPL"), (0, u "C"), (2, u "LATIN1"), (1, u "UTF16")] 323

def k7m0 : Method := { name := "<init>", desc := "()V", sig := { parameters := [], returnType := none }, accessFlags := 1, code := none }
def k7c1 : Code := { maxStack := 5, maxLocals := 2, code := jdk_42_method_3_code, exceptionTable := #[], attributes := #[] }
def k7m1 : Method := { name := "<init>", desc := "([C)V", sig := { parameters := [(.array .char)], returnType := none }, accessFlags := 1, code := some k7c1 }
def k7c2 : Code := { maxStack := 2, maxLocals := 1, code := jdk_42_method_54_code, exceptionTable := #[], attributes := #[] }
def k7m2 : Method := { name := "length", desc := "()I", sig := { parameters := [], returnType := some .int }, accessFlags := 1, code := some k7c2 }
def k7c3 : Code := { maxStack := 3, maxLocals := 2, code := jdk_42_method_79_code, exceptionTable := #[], attributes := #[] }
def k7m3 : Method := { name := "indexOf", desc := "(I)I", sig := { parameters := [.int], returnType := some .int }, accessFlags := 1, code := some k7c3 }
def k7c4 : Code := { maxStack := 4, maxLocals := 3, code := jdk_42_method_80_code, exceptionTable := #[], attributes := #[] }
def k7m4 : Method := { name := "indexOf", desc := "(II)I", sig := { parameters := [.int, .int], returnType := some .int }, accessFlags := 1, code := some k7c4 }
def k7c5 : Code := { maxStack := 4, maxLocals := 6, code := jdk_42_method_149_code, exceptionTable := #[], attributes := #[] }
def k7m5 : Method := { name := "<init>", desc := "([CIILjava/lang/Void;)V", sig := { parameters := [(.array .char), .int, .int, (.object "java/lang/Void")], returnType := none }, accessFlags := 2, code := some k7c5 }
def k7c6 : Code := { maxStack := 1, maxLocals := 1, code := jdk_42_method_152_code, exceptionTable := #[], attributes := #[] }
def k7m6 : Method := { name := "coder", desc := "()B", sig := { parameters := [], returnType := some .byte }, accessFlags := 0, code := some k7c6 }
def k7c7 : Code := { maxStack := 1, maxLocals := 1, code := jdk_42_method_154_code, exceptionTable := #[], attributes := #[] }
def k7m7 : Method := { name := "isLatin1", desc := "()Z", sig := { parameters := [], returnType := some .boolean }, accessFlags := 0, code := some k7c7 }
def k7c8 : Code := { maxStack := 4, maxLocals := 3, code := jdk_42_method_158_code, exceptionTable := #[], attributes := #[] }
def k7m8 : Method := { name := "checkBoundsBeginEnd", desc := "(III)V", sig := { parameters := [.int, .int, .int], returnType := none }, accessFlags := 8, code := some k7c8 }
/-- java/lang/String -/
def k7 : Class := { plain "java/lang/String" (some 0) with
  accessFlags := 49
  interfaces := #[2, 3, 4, 5, 6]
  cf := some (fileOf pool7 10 #[.nestMembers #[1103]] #[{ accessFlags := 1, nameIndex := 5, descriptorIndex := 6, attributes := #[] }, { accessFlags := 1, nameIndex := 5, descriptorIndex := 1010, attributes := #[] }, { accessFlags := 1, nameIndex := 507, descriptorIndex := 334, attributes := #[] }, { accessFlags := 1, nameIndex := 635, descriptorIndex := 765, attributes := #[] }, { accessFlags := 1, nameIndex := 635, descriptorIndex := 636, attributes := #[] }, { accessFlags := 2, nameIndex := 5, descriptorIndex := 29, attributes := #[] }, { accessFlags := 0, nameIndex := 17, descriptorIndex := 337, attributes := #[] }, { accessFlags := 0, nameIndex := 494, descriptorIndex := 142, attributes := #[] }, { accessFlags := 8, nameIndex := 523, descriptorIndex := 524, attributes := #[] }] 49 2 #[1106, 1108, 575, 1110, 1112] #[{ accessFlags := 18, nameIndex := 13, descriptorIndex := 14, attributes := #[] }, { accessFlags := 18, nameIndex := 17, descriptorIndex := 18, attributes := #[] }, { accessFlags := 2, nameIndex := 21, descriptorIndex := 22, attributes := #[] }, { accessFlags := 2, nameIndex := 25, descriptorIndex := 26, attributes := #[] }, { accessFlags := 26, nameIndex := 1116, descriptorIndex := 1117, attributes := #[] }, { accessFlags := 24, nameIndex := 40, descriptorIndex := 26, attributes := #[] }, { accessFlags := 26, nameIndex := 1101, descriptorIndex := 1102, attributes := #[] }, { accessFlags := 26, nameIndex := 1121, descriptorIndex := 1122, attributes := #[] }, { accessFlags := 25, nameIndex := 599, descriptorIndex := 600, attributes := #[] }, { accessFlags := 24, nameIndex := 1125, descriptorIndex := 18, attributes := #[] }, { accessFlags := 24, nameIndex := 1127, descriptorIndex := 18, attributes := #[] }])
  fields := #[{ name := "value", type := (.array .byte), accessFlags := 18, slot := 0, constantValue := 0 }, { name := "coder", type := .byte, accessFlags := 18, slot := 1, constantValue := 0 }, { name := "hash", type := .int, accessFlags := 2, slot := 2, constantValue := 0 }, { name := "hashIsZero", type := .boolean, accessFlags := 2, slot := 3, constantValue := 0 }, { name := "serialVersionUID", type := .long, accessFlags := 26, slot := 0, constantValue := 0 }, { name := "COMPACT_STRINGS", type := .boolean, accessFlags := 24, slot := 1, constantValue := 0 }, { name := "serialPersistentFields", type := (.array (.object "java/io/ObjectStreamField")), accessFlags := 26, slot := 2, constantValue := 0 }, { name := "REPL", type := .char, accessFlags := 26, slot := 3, constantValue := 0 }, { name := "CASE_INSENSITIVE_ORDER", type := (.object "java/util/Comparator"), accessFlags := 25, slot := 4, constantValue := 0 }, { name := "LATIN1", type := .byte, accessFlags := 24, slot := 5, constantValue := 0 }, { name := "UTF16", type := .byte, accessFlags := 24, slot := 6, constantValue := 0 }]
  methods := #[k7m0, k7m1, k7m2, k7m3, k7m4, k7m5, k7m6, k7m7, k7m8]
  instanceTypes := #[(.array .byte), .byte, .int, .boolean]
  staticTypes := #[.long, .boolean, (.array (.object "java/io/ObjectStreamField")), .char, (.object "java/util/Comparator"), .byte, .byte]
  resolved := Array.replicate 1451 none
  statics := some 0 }

def pool8 : Array CpInfo := pool [(2, .class_ 4), (1, u "java/lang/Object"), (0, u "<init>"), (0, u "()V"), (51, .class_ 59), (0, u "com/example/vestwright/vestwright/InputFiles"), (9, .integer 65533), (0, .methodref 71 72), (0, .class_ 73), (0, .nameAndType 74 75), (0, u "java/lang/String"), (0, u "indexOf"), (0, u "(I)I"), (0, u "NOT_UTF_8"), (0, u "C"), (1, u "BYTE_ORDER_MARK"), (6, u "isUtf8"), (0, u "(Ljava/lang/String;)Z")] 2

def k8m0 : Method := { name := "<init>", desc := "()V", sig := { parameters := [], returnType := none }, accessFlags := 2, code := none }
def k8c1 : Code := { maxStack := 2, maxLocals := 1, code := prog_23_method_3_code, exceptionTable := #[], attributes := #[] }
def k8m1 : Method := { name := "isUtf8", desc := "(Ljava/lang/String;)Z", sig := { parameters := [(.object "java/lang/String")], returnType := some .boolean }, accessFlags := 8, code := some k8c1 }
/-- com/example/vestwright/vestwright/InputFiles -/
def k8 : Class := { plain "com/example/vestwright/vestwright/InputFiles" (some 0) with
  accessFlags := 48
  interfaces := #[]
  cf := some (fileOf pool8 58 #[] #[{ accessFlags := 2, nameIndex := 5, descriptorIndex := 6, attributes := #[] }, { accessFlags := 8, nameIndex := 86, descriptorIndex := 87, attributes := #[] }] 48 2 #[] #[{ accessFlags := 26, nameIndex := 76, descriptorIndex := 77, attributes := #[] }, { accessFlags := 26, nameIndex := 79, descriptorIndex := 77, attributes := #[] }])
  fields := #[{ name := "NOT_UTF_8", type := .char, accessFlags := 26, slot := 0, constantValue := 0 }, { name := "BYTE_ORDER_MARK", type := .char, accessFlags := 26, slot := 1, constantValue := 0 }]
  methods := #[k8m0, k8m1]
  instanceTypes := #[]
  staticTypes := #[.char, .char]
  resolved := Array.replicate 90 none
  statics := none }

def pool9 : Array CpInfo := pool [(4, .class_ 6), (1, u "java/lang/Object"), (0, u "<init>"), (0, u "()V"), (5, .class_ 16), (1, u "java/lang/StringLatin1"), (71, .methodref 14 89), (0, .nameAndType 90 91), (0, u "canEncode"), (0, u "(I)Z"), (6, u "([BIII)I"), (2, u "indexOf"), (19, u "$assertionsDisabled"), (0, u "Z"), (98, .class_ 223), (1, u "java/lang/StringLatin1$LinesSpliterator"), (166, .class_ 391), (0, u "java/lang/StringLatin1$CharsSpliterator")] 3

def k9m0 : Method := { name := "<init>", desc := "()V", sig := { parameters := [], returnType := none }, accessFlags := 0, code := none }
def k9c1 : Code := { maxStack := 2, maxLocals := 1, code := jdk_43_method_4_code, exceptionTable := #[], attributes := #[] }
def k9m1 : Method := { name := "canEncode", desc := "(I)Z", sig := { parameters := [.int], returnType := some .boolean }, accessFlags := 9, code := some k9c1 }
def k9c2 : Code := { maxStack := 4, maxLocals := 4, code := jdk_43_method_22_code, exceptionTable := #[], attributes := #[] }
def k9m2 : Method := { name := "indexOf", desc := "([BIII)I", sig := { parameters := [(.array .byte), .int, .int, .int], returnType := some .int }, accessFlags := 9, code := some k9c2 }
/-- java/lang/StringLatin1 -/
def k9 : Class := { plain "java/lang/StringLatin1" (some 0) with
  accessFlags := 48
  interfaces := #[]
  cf := some (fileOf pool9 14 #[.nestMembers #[390, 221]] #[{ accessFlags := 0, nameIndex := 7, descriptorIndex := 8, attributes := #[] }, { accessFlags := 9, nameIndex := 90, descriptorIndex := 91, attributes := #[] }, { accessFlags := 9, nameIndex := 101, descriptorIndex := 98, attributes := #[] }] 48 4 #[] #[{ accessFlags := 4120, nameIndex := 121, descriptorIndex := 122, attributes := #[] }])
  fields := #[{ name := "$assertionsDisabled", type := .boolean, accessFlags := 4120, slot := 0, constantValue := 0 }]
  methods := #[k9m0, k9m1, k9m2]
  instanceTypes := #[]
  staticTypes := #[.boolean]
  resolved := Array.replicate 395 none
  statics := none }

def pool10 : Array CpInfo := pool [(3, .class_ 4), (0, u "java/lang/String"), (1, .class_ 8), (1, u "java/lang/Object"), (0, u "<init>"), (0, u "()V"), (0, .methodref 12 13), (0, .class_ 14), (0, .nameAndType 15 16), (0, u "java/lang/StringUTF16"), (0, u "newBytesLength"), (0, u "(I)I"), (3, .integer 1073741823), (23, .fieldref 12 45), (0, .nameAndType 46 47), (0, u "$assertionsDisabled"), (0, u "Z"), (0, .methodref 12 49), (0, .nameAndType 50 51), (0, u "length"), (0, u "([B)I"), (7, .fieldref 12 60), (0, .nameAndType 61 62), (0, u "HI_BYTE_SHIFT"), (0, u "I"), (0, .fieldref 12 64), (0, .nameAndType 65 62), (0, u "LO_BYTE_SHIFT"), (5, .methodref 12 72), (0, .nameAndType 73 74), (0, u "getChar"), (0, u "([BI)C"), (21, .methodref 12 97), (0, .nameAndType 98 99), (0, u "checkBoundsBeginEnd"), (0, u "(II[B)V"), (7, .methodref 12 108), (0, .nameAndType 109 110), (0, u "newBytesFor"), (0, u "(I)[B"), (0, .methodref 12 112), (0, .nameAndType 113 114), (0, u "putChar"), (0, u "([BII)V"), (0, .methodref 12 116), (0, .nameAndType 117 118), (0, u "compress"), (0, u "([CI[BII)I"), (0, .methodref 12 120), (0, .nameAndType 121 122), (0, u "toBytes"), (0, u "([CII)[B"), (60, .methodref 184 185), (0, .class_ 186), (0, .nameAndType 187 188), (0, u "java/lang/Math"), (0, u "min"), (0, u "(II)I"), (35, .methodref 184 225), (0, .nameAndType 226 188), (0, u "max"), (0, .integer 65536), (0, .methodref 12 229), (0, .nameAndType 230 231), (0, u "indexOfChar"), (0, u "([BIII)I"), (9, .methodref 3 242), (0, .nameAndType 98 243), (0, u "(III)V"), (0, .methodref 12 245), (0, .nameAndType 246 231), (0, u "indexOfCharUnsafe"), (14, u "coderFromArrayLen"), (0, u "([BI)B"), (5, u "indexOf"), (100, .class_ 371), (1, u "java/lang/StringUTF16$LinesSpliterator"), (58, u "MAX_LENGTH"), (196, .class_ 628), (0, u "java/lang/StringUTF16$CodePointsSpliterator"), (0, .class_ 630), (0, u "java/lang/StringUTF16$CharsSpliterator")] 4

def k10m0 : Method := { name := "<init>", desc := "()V", sig := { parameters := [], returnType := none }, accessFlags := 0, code := none }
def k10c1 : Code := { maxStack := 1, maxLocals := 1, code := jdk_52_method_2_code, exceptionTable := #[], attributes := #[] }
def k10m1 : Method := { name := "newBytesFor", desc := "(I)[B", sig := { parameters := [.int], returnType := some (.array .byte) }, accessFlags := 9, code := some k10c1 }
def k10c2 : Code := { maxStack := 4, maxLocals := 1, code := jdk_52_method_3_code, exceptionTable := #[], attributes := #[] }
def k10m2 : Method := { name := "newBytesLength", desc := "(I)I", sig := { parameters := [.int], returnType := some .int }, accessFlags := 9, code := some k10c2 }
def k10c3 : Code := { maxStack := 4, maxLocals := 3, code := jdk_52_method_4_code, exceptionTable := #[], attributes := #[] }
def k10m3 : Method := { name := "putChar", desc := "([BII)V", sig := { parameters := [(.array .byte), .int, .int], returnType := none }, accessFlags := 8, code := some k10c3 }
def k10c4 : Code := { maxStack := 3, maxLocals := 2, code := jdk_52_method_5_code, exceptionTable := #[], attributes := #[] }
def k10m4 : Method := { name := "getChar", desc := "([BI)C", sig := { parameters := [(.array .byte), .int], returnType := some .char }, accessFlags := 8, code := some k10c4 }
def k10c5 : Code := { maxStack := 2, maxLocals := 1, code := jdk_52_method_6_code, exceptionTable := #[], attributes := #[] }
def k10m5 : Method := { name := "length", desc := "([B)I", sig := { parameters := [(.array .byte)], returnType := some .int }, accessFlags := 9, code := some k10c5 }
def k10c6 : Code := { maxStack := 4, maxLocals := 5, code := jdk_52_method_14_code, exceptionTable := #[], attributes := #[] }
def k10m6 : Method := { name := "toBytes", desc := "([CII)[B", sig := { parameters := [(.array .char), .int, .int], returnType := some (.array .byte) }, accessFlags := 9, code := some k10c6 }
def k10c7 : Code := { maxStack := 2, maxLocals := 2, code := jdk_52_method_15_code, exceptionTable := #[], attributes := #[] }
def k10m7 : Method := { name := "coderFromArrayLen", desc := "([BI)B", sig := { parameters := [(.array .byte), .int], returnType := some .byte }, accessFlags := 8, code := some k10c7 }
def k10c8 : Code := { maxStack := 5, maxLocals := 6, code := jdk_52_method_16_code, exceptionTable := #[], attributes := #[] }
def k10m8 : Method := { name := "compress", desc := "([CII)[B", sig := { parameters := [(.array .char), .int, .int], returnType := some (.array .byte) }, accessFlags := 9, code := some k10c8 }
def k10c9 : Code := { maxStack := 3, maxLocals := 7, code := jdk_52_method_21_code, exceptionTable := #[], attributes := #[] }
def k10m9 : Method := { name := "compress", desc := "([CI[BII)I", sig := { parameters := [(.array .char), .int, (.array .byte), .int, .int], returnType := some .int }, accessFlags := 9, code := some k10c9 }
def k10c10 : Code := { maxStack := 4, maxLocals := 4, code := jdk_52_method_40_code, exceptionTable := #[], attributes := #[] }
def k10m10 : Method := { name := "indexOf", desc := "([BIII)I", sig := { parameters := [(.array .byte), .int, .int, .int], returnType := some .int }, accessFlags := 9, code := some k10c10 }
def k10c11 : Code := { maxStack := 4, maxLocals := 4, code := jdk_52_method_47_code, exceptionTable := #[], attributes := #[] }
def k10m11 : Method := { name := "indexOfChar", desc := "([BIII)I", sig := { parameters := [(.array .byte), .int, .int, .int], returnType := some .int }, accessFlags := 10, code := some k10c11 }
def k10c12 : Code := { maxStack := 2, maxLocals := 5, code := jdk_52_method_48_code, exceptionTable := #[], attributes := #[] }
def k10m12 : Method := { name := "indexOfCharUnsafe", desc := "([BIII)I", sig := { parameters := [(.array .byte), .int, .int, .int], returnType := some .int }, accessFlags := 10, code := some k10c12 }
def k10c13 : Code := { maxStack := 3, maxLocals := 3, code := jdk_52_method_93_code, exceptionTable := #[], attributes := #[] }
def k10m13 : Method := { name := "checkBoundsBeginEnd", desc := "(II[B)V", sig := { parameters := [.int, .int, (.array .byte)], returnType := none }, accessFlags := 9, code := some k10c13 }
/-- java/lang/StringUTF16 -/
def k10 : Class := { plain "java/lang/StringUTF16" (some 0) with
  accessFlags := 48
  interfaces := #[]
  cf := some (fileOf pool10 12 #[.nestMembers #[627, 629, 369]] #[{ accessFlags := 0, nameIndex := 9, descriptorIndex := 10, attributes := #[] }, { accessFlags := 9, nameIndex := 109, descriptorIndex := 110, attributes := #[] }, { accessFlags := 9, nameIndex := 15, descriptorIndex := 16, attributes := #[] }, { accessFlags := 8, nameIndex := 113, descriptorIndex := 114, attributes := #[] }, { accessFlags := 8, nameIndex := 73, descriptorIndex := 74, attributes := #[] }, { accessFlags := 9, nameIndex := 50, descriptorIndex := 51, attributes := #[] }, { accessFlags := 9, nameIndex := 121, descriptorIndex := 122, attributes := #[] }, { accessFlags := 8, nameIndex := 261, descriptorIndex := 262, attributes := #[] }, { accessFlags := 9, nameIndex := 117, descriptorIndex := 122, attributes := #[] }, { accessFlags := 9, nameIndex := 117, descriptorIndex := 118, attributes := #[] }, { accessFlags := 9, nameIndex := 268, descriptorIndex := 231, attributes := #[] }, { accessFlags := 10, nameIndex := 230, descriptorIndex := 231, attributes := #[] }, { accessFlags := 10, nameIndex := 246, descriptorIndex := 231, attributes := #[] }, { accessFlags := 9, nameIndex := 98, descriptorIndex := 99, attributes := #[] }] 48 6 #[] #[{ accessFlags := 26, nameIndex := 61, descriptorIndex := 62, attributes := #[] }, { accessFlags := 26, nameIndex := 65, descriptorIndex := 62, attributes := #[] }, { accessFlags := 24, nameIndex := 430, descriptorIndex := 62, attributes := #[] }, { accessFlags := 4120, nameIndex := 46, descriptorIndex := 47, attributes := #[] }])
  fields := #[{ name := "HI_BYTE_SHIFT", type := .int, accessFlags := 26, slot := 0, constantValue := 0 }, { name := "LO_BYTE_SHIFT", type := .int, accessFlags := 26, slot := 1, constantValue := 0 }, { name := "MAX_LENGTH", type := .int, accessFlags := 24, slot := 2, constantValue := 0 }, { name := "$assertionsDisabled", type := .boolean, accessFlags := 4120, slot := 3, constantValue := 0 }]
  methods := #[k10m0, k10m1, k10m2, k10m3, k10m4, k10m5, k10m6, k10m7, k10m8, k10m9, k10m10, k10m11, k10m12, k10m13]
  instanceTypes := #[]
  staticTypes := #[.int, .int, .int, .boolean]
  resolved := Array.replicate 635 none
  statics := some 1 }

def pool11 : Array CpInfo := pool [(1, .class_ 2), (0, u "java/lang/Math"), (1, .class_ 6), (1, u "java/lang/Object"), (0, u "<init>"), (0, u "()V"), (89, .class_ 100), (1, u "java/lang/Math$RandomNumberGeneratorHolder"), (71, u "negativeZeroFloatBits"), (0, u "J"), (2, u "negativeZeroDoubleBits"), (21, u "max"), (2, u "min"), (43, u "$assertionsDisabled"), (0, u "Z"), (88, u "(II)I"), (2, u "twoToTheDoubleScaleDown"), (0, u "D"), (4, u "twoToTheDoubleScaleUp"), (9, u "E"), (3, u "PI"), (2, u "TAU"), (2, u "DEGREES_TO_RADIANS"), (0, u "RADIANS_TO_DEGREES")] 94

def k11m0 : Method := { name := "<init>", desc := "()V", sig := { parameters := [], returnType := none }, accessFlags := 2, code := none }
def k11c1 : Code := { maxStack := 2, maxLocals := 2, code := jdk_29_method_65_code, exceptionTable := #[], attributes := #[] }
def k11m1 : Method := { name := "max", desc := "(II)I", sig := { parameters := [.int, .int], returnType := some .int }, accessFlags := 9, code := some k11c1 }
def k11c2 : Code := { maxStack := 2, maxLocals := 2, code := jdk_29_method_69_code, exceptionTable := #[], attributes := #[] }
def k11m2 : Method := { name := "min", desc := "(II)I", sig := { parameters := [.int, .int], returnType := some .int }, accessFlags := 9, code := some k11c2 }
/-- java/lang/Math -/
def k11 : Class := { plain "java/lang/Math" (some 0) with
  accessFlags := 49
  interfaces := #[]
  cf := some (fileOf pool11 1 #[.nestMembers #[98]] #[{ accessFlags := 2, nameIndex := 7, descriptorIndex := 8, attributes := #[] }, { accessFlags := 9, nameIndex := 198, descriptorIndex := 335, attributes := #[] }, { accessFlags := 9, nameIndex := 201, descriptorIndex := 335, attributes := #[] }] 49 4 #[] #[{ accessFlags := 25, nameIndex := 354, descriptorIndex := 339, attributes := #[] }, { accessFlags := 25, nameIndex := 358, descriptorIndex := 339, attributes := #[] }, { accessFlags := 25, nameIndex := 361, descriptorIndex := 339, attributes := #[] }, { accessFlags := 26, nameIndex := 364, descriptorIndex := 339, attributes := #[] }, { accessFlags := 26, nameIndex := 365, descriptorIndex := 339, attributes := #[] }, { accessFlags := 26, nameIndex := 172, descriptorIndex := 173, attributes := #[] }, { accessFlags := 26, nameIndex := 176, descriptorIndex := 173, attributes := #[] }, { accessFlags := 8, nameIndex := 344, descriptorIndex := 339, attributes := #[] }, { accessFlags := 8, nameIndex := 338, descriptorIndex := 339, attributes := #[] }, { accessFlags := 4120, nameIndex := 245, descriptorIndex := 246, attributes := #[] }])
  fields := #[{ name := "E", type := .double, accessFlags := 25, slot := 0, constantValue := 0 }, { name := "PI", type := .double, accessFlags := 25, slot := 1, constantValue := 0 }, { name := "TAU", type := .double, accessFlags := 25, slot := 2, constantValue := 0 }, { name := "DEGREES_TO_RADIANS", type := .double, accessFlags := 26, slot := 3, constantValue := 0 }, { name := "RADIANS_TO_DEGREES", type := .double, accessFlags := 26, slot := 4, constantValue := 0 }, { name := "negativeZeroFloatBits", type := .long, accessFlags := 26, slot := 5, constantValue := 0 }, { name := "negativeZeroDoubleBits", type := .long, accessFlags := 26, slot := 6, constantValue := 0 }, { name := "twoToTheDoubleScaleUp", type := .double, accessFlags := 8, slot := 7, constantValue := 0 }, { name := "twoToTheDoubleScaleDown", type := .double, accessFlags := 8, slot := 8, constantValue := 0 }, { name := "$assertionsDisabled", type := .boolean, accessFlags := 4120, slot := 9, constantValue := 0 }]
  methods := #[k11m0, k11m1, k11m2]
  instanceTypes := #[]
  staticTypes := #[.double, .double, .double, .double, .double, .long, .long, .double, .double, .boolean]
  resolved := Array.replicate 460 none
  statics := none }

def pool12 : Array CpInfo := pool [(2, .class_ 4), (1, u "java/lang/Object"), (0, u "<init>"), (0, u "()V"), (17, .class_ 26), (1, u "jdk/internal/util/Preconditions"), (20, u "checkFromToIndex"), (7, .class_ 56), (0, u "jdk/internal/util/Preconditions$4"), (57, .class_ 115), (0, u "jdk/internal/util/Preconditions$1"), (7, u "SIOOBE_FORMATTER"), (0, u "Ljava/util/function/BiFunction;"), (0, .class_ 126), (0, u "jdk/internal/util/Preconditions$2"), (3, u "AIOOBE_FORMATTER"), (0, .class_ 132), (0, u "jdk/internal/util/Preconditions$3"), (3, u "IOOBE_FORMATTER"), (46, u "(IIILjava/util/function/BiFunction;)I")] 10

def k12m0 : Method := { name := "<init>", desc := "()V", sig := { parameters := [], returnType := none }, accessFlags := 1, code := none }
def k12c1 : Code := { maxStack := 4, maxLocals := 4, code := jdk_41_method_12_code, exceptionTable := #[], attributes := #[] }
def k12m1 : Method := { name := "checkFromToIndex", desc := "(IIILjava/util/function/BiFunction;)I", sig := { parameters := [.int, .int, .int, (.object "java/util/function/BiFunction")], returnType := some .int }, accessFlags := 9, code := some k12c1 }
/-- jdk/internal/util/Preconditions -/
def k12 : Class := { plain "jdk/internal/util/Preconditions" (some 0) with
  accessFlags := 33
  interfaces := #[]
  cf := some (fileOf pool12 24 #[.nestMembers #[55, 131, 125, 114]] #[{ accessFlags := 1, nameIndex := 5, descriptorIndex := 6, attributes := #[] }, { accessFlags := 9, nameIndex := 47, descriptorIndex := 183, attributes := #[] }] 33 2 #[] #[{ accessFlags := 25, nameIndex := 123, descriptorIndex := 124, attributes := #[] }, { accessFlags := 25, nameIndex := 130, descriptorIndex := 124, attributes := #[] }, { accessFlags := 25, nameIndex := 136, descriptorIndex := 124, attributes := #[] }])
  fields := #[{ name := "SIOOBE_FORMATTER", type := (.object "java/util/function/BiFunction"), accessFlags := 25, slot := 0, constantValue := 0 }, { name := "AIOOBE_FORMATTER", type := (.object "java/util/function/BiFunction"), accessFlags := 25, slot := 1, constantValue := 0 }, { name := "IOOBE_FORMATTER", type := (.object "java/util/function/BiFunction"), accessFlags := 25, slot := 2, constantValue := 0 }]
  methods := #[k12m0, k12m1]
  instanceTypes := #[]
  staticTypes := #[(.object "java/util/function/BiFunction"), (.object "java/util/function/BiFunction"), (.object "java/util/function/BiFunction")]
  resolved := Array.replicate 194 none
  statics := some 2 }

def pool13 : Array CpInfo := pool [(9, u "<init>"), (6, .class_ 18), (1, u "java/lang/Object"), (0, u "()V"), (1, .class_ 23), (1, u "jdk/internal/util/ArraysSupport"), (0, u "LOG2_ARRAY_LONG_INDEX_SCALE"), (0, u "I"), (2, u "U"), (0, u "Ljdk/internal/misc/Unsafe;"), (8, u "BIG_ENDIAN"), (0, u "Z"), (8, u "LOG2_BYTE_BIT_SIZE"), (4, u "LOG2_ARRAY_INT_INDEX_SCALE"), (54, u "JLA"), (0, u "Ljdk/internal/access/JavaLangAccess;"), (11, u "LOG2_ARRAY_BOOLEAN_INDEX_SCALE"), (9, u "LOG2_ARRAY_BYTE_INDEX_SCALE"), (5, u "LOG2_ARRAY_CHAR_INDEX_SCALE"), (5, u "LOG2_ARRAY_SHORT_INDEX_SCALE"), (18, u "LOG2_ARRAY_FLOAT_INDEX_SCALE"), (24, u "LOG2_ARRAY_DOUBLE_INDEX_SCALE"), (89, u "T_BOOLEAN"), (2, u "T_CHAR"), (1, u "T_FLOAT"), (1, u "T_DOUBLE"), (1, u "T_BYTE"), (1, u "T_SHORT"), (1, u "T_INT"), (1, u "T_LONG"), (1, u "SOFT_MAX_ARRAY_LENGTH")] 83

def k13m0 : Method := { name := "<init>", desc := "()V", sig := { parameters := [], returnType := none }, accessFlags := 2, code := none }
/-- jdk/internal/util/ArraysSupport -/
def k13 : Class := { plain "jdk/internal/util/ArraysSupport" (some 0) with
  accessFlags := 33
  interfaces := #[]
  cf := some (fileOf pool13 21 #[] #[{ accessFlags := 2, nameIndex := 9, descriptorIndex := 19, attributes := #[] }] 33 16 #[] #[{ accessFlags := 24, nameIndex := 28, descriptorIndex := 29, attributes := #[] }, { accessFlags := 26, nameIndex := 38, descriptorIndex := 39, attributes := #[] }, { accessFlags := 25, nameIndex := 121, descriptorIndex := 25, attributes := #[] }, { accessFlags := 25, nameIndex := 131, descriptorIndex := 25, attributes := #[] }, { accessFlags := 25, nameIndex := 137, descriptorIndex := 25, attributes := #[] }, { accessFlags := 25, nameIndex := 143, descriptorIndex := 25, attributes := #[] }, { accessFlags := 25, nameIndex := 53, descriptorIndex := 25, attributes := #[] }, { accessFlags := 25, nameIndex := 24, descriptorIndex := 25, attributes := #[] }, { accessFlags := 25, nameIndex := 162, descriptorIndex := 25, attributes := #[] }, { accessFlags := 25, nameIndex := 187, descriptorIndex := 25, attributes := #[] }, { accessFlags := 26, nameIndex := 48, descriptorIndex := 25, attributes := #[] }, { accessFlags := 25, nameIndex := 277, descriptorIndex := 25, attributes := #[] }, { accessFlags := 25, nameIndex := 280, descriptorIndex := 25, attributes := #[] }, { accessFlags := 25, nameIndex := 282, descriptorIndex := 25, attributes := #[] }, { accessFlags := 25, nameIndex := 284, descriptorIndex := 25, attributes := #[] }, { accessFlags := 25, nameIndex := 286, descriptorIndex := 25, attributes := #[] }, { accessFlags := 25, nameIndex := 288, descriptorIndex := 25, attributes := #[] }, { accessFlags := 25, nameIndex := 290, descriptorIndex := 25, attributes := #[] }, { accessFlags := 25, nameIndex := 292, descriptorIndex := 25, attributes := #[] }, { accessFlags := 26, nameIndex := 108, descriptorIndex := 109, attributes := #[] }, { accessFlags := 25, nameIndex := 294, descriptorIndex := 25, attributes := #[] }])
  fields := #[{ name := "U", type := (.object "jdk/internal/misc/Unsafe"), accessFlags := 24, slot := 0, constantValue := 0 }, { name := "BIG_ENDIAN", type := .boolean, accessFlags := 26, slot := 1, constantValue := 0 }, { name := "LOG2_ARRAY_BOOLEAN_INDEX_SCALE", type := .int, accessFlags := 25, slot := 2, constantValue := 0 }, { name := "LOG2_ARRAY_BYTE_INDEX_SCALE", type := .int, accessFlags := 25, slot := 3, constantValue := 0 }, { name := "LOG2_ARRAY_CHAR_INDEX_SCALE", type := .int, accessFlags := 25, slot := 4, constantValue := 0 }, { name := "LOG2_ARRAY_SHORT_INDEX_SCALE", type := .int, accessFlags := 25, slot := 5, constantValue := 0 }, { name := "LOG2_ARRAY_INT_INDEX_SCALE", type := .int, accessFlags := 25, slot := 6, constantValue := 0 }, { name := "LOG2_ARRAY_LONG_INDEX_SCALE", type := .int, accessFlags := 25, slot := 7, constantValue := 0 }, { name := "LOG2_ARRAY_FLOAT_INDEX_SCALE", type := .int, accessFlags := 25, slot := 8, constantValue := 0 }, { name := "LOG2_ARRAY_DOUBLE_INDEX_SCALE", type := .int, accessFlags := 25, slot := 9, constantValue := 0 }, { name := "LOG2_BYTE_BIT_SIZE", type := .int, accessFlags := 26, slot := 10, constantValue := 0 }, { name := "T_BOOLEAN", type := .int, accessFlags := 25, slot := 11, constantValue := 0 }, { name := "T_CHAR", type := .int, accessFlags := 25, slot := 12, constantValue := 0 }, { name := "T_FLOAT", type := .int, accessFlags := 25, slot := 13, constantValue := 0 }, { name := "T_DOUBLE", type := .int, accessFlags := 25, slot := 14, constantValue := 0 }, { name := "T_BYTE", type := .int, accessFlags := 25, slot := 15, constantValue := 0 }, { name := "T_SHORT", type := .int, accessFlags := 25, slot := 16, constantValue := 0 }, { name := "T_INT", type := .int, accessFlags := 25, slot := 17, constantValue := 0 }, { name := "T_LONG", type := .int, accessFlags := 25, slot := 18, constantValue := 0 }, { name := "JLA", type := (.object "jdk/internal/access/JavaLangAccess"), accessFlags := 26, slot := 19, constantValue := 0 }, { name := "SOFT_MAX_ARRAY_LENGTH", type := .int, accessFlags := 25, slot := 20, constantValue := 0 }]
  methods := #[k13m0]
  instanceTypes := #[]
  staticTypes := #[(.object "jdk/internal/misc/Unsafe"), .boolean, .int, .int, .int, .int, .int, .int, .int, .int, .int, .int, .int, .int, .int, .int, .int, .int, .int, (.object "jdk/internal/access/JavaLangAccess"), .int]
  resolved := Array.replicate 378 none
  statics := none }

def pool14 : Array CpInfo := pool [(1, u "java/lang/Cloneable"), (0, .class_ 1), (0, u "java/lang/Object"), (0, .class_ 3)] 3

/-- java/lang/Cloneable -/
def k14 : Class := { plain "java/lang/Cloneable" (some 0) with
  accessFlags := 1537
  interfaces := #[]
  cf := some (fileOf pool14 2 #[] #[] 1537 4 #[] #[])
  fields := #[]
  methods := #[]
  instanceTypes := #[]
  staticTypes := #[]
  resolved := Array.replicate 8 none
  statics := none }

/-- the primitive byte -/
def k15 : Class := { plain "byte" none with kind := .primitive 'B', accessFlags := 0x411 }
/-- [B -/
def k16 : Class := { plain "[B" (some 0) with kind := .array 15 .byte, interfaces := #[14, 2], accessFlags := 1041 }

/-- the primitive char -/
def k17 : Class := { plain "char" none with kind := .primitive 'C', accessFlags := 0x411 }
/-- [C -/
def k18 : Class := { plain "[C" (some 0) with kind := .array 17 .char, interfaces := #[14, 2], accessFlags := 1041 }

/-- the primitive int -/
def k19 : Class := { plain "int" none with kind := .primitive 'I', accessFlags := 0x411 }
/-- [I -/
def k20 : Class := { plain "[I" (some 0) with kind := .array 19 .int, interfaces := #[14, 2], accessFlags := 1041 }

def heap : Heap := #[{ cls := 7, slots := #[.long 0, .int 1, .null, .int 0, .null, .int 0, .int 0], vm := .statics 7 },
  { cls := 10, slots := #[.int 0, .int 8, .int 0, .int 1], vm := .statics 10 },
  { cls := 12, slots := #[.null, .null, .null], vm := .statics 12 }]
def classes : Array Class := #[k0, k1, k2, k3, k4, k5, k6, k7, k8, k9, k10, k11, k12, k13, k14, k15, k16, k17, k18, k19, k20]
def interned : List (Array UInt16 × Addr) := []
def slotsUsed : Nat := 14
def theMethod : MethodId := ⟨1, 3⟩
def args0 : Array Value := #[.int 4, .int 9, .int 1, .int 2, .int 3]
def aboutOver (below : List Frame) : State where
  vm := { classes := classes, interned := interned.toArray }
  heap := heap
  slotsUsed := slotsUsed
  threads := #[{ frames := .invoking theMethod args0 :: below }]
def below0 : List Frame := [.native { method := ⟨0, 0⟩, args := #[] }]
def about1 : State := aboutOver below0
def p0 : Program := .bare "" "" ""
def e0 : Env := launch0.env 0 0 0
theorem w_frames : about1.frames = Frame.invoking theMethod args0 :: below0 := rfl
set_option maxRecDepth 65536 in
theorem w_args : argsFit about1.vm theMethod args0 = true := by decide +kernel
set_option maxRecDepth 65536 in
theorem w_heap : heapFits about1 = true := by decide +kernel
set_option maxRecDepth 65536 in
theorem w_runnable : about1.curStatus? = some .runnable := by decide +kernel
set_option maxRecDepth 65536 in
theorem w_alone : about1.alone = true := by decide +kernel
set_option maxRecDepth 65536 in
theorem w_named : about1.methodNamed? x = some theMethod := by decide +kernel
set_option maxRecDepth 65536 in
theorem w_hears : about1.hears theMethod below0 = true := by decide +kernel
set_option maxRecDepth 65536 in
theorem w_ripe : about1.ripe theMethod args0 below0 = true := by decide +kernel
theorem w_running : about1.status = .running := rfl
set_option maxRecDepth 65536 in
theorem w_room : about1.hasRoom e0.platform room_1 = true :=
  launch0.hasRoom_least _ room_1 (by decide +kernel) (by decide +kernel) (by decide +kernel) (by decide +kernel) (by decide +kernel) (by decide +kernel)
theorem allAtoms_all (ts : List Jvm.Cond) (a : Array Jvm.Value) (st : Jvm.State) : (allAtoms ts).before a st = ts.all (fun c => c.before a st) := by
  induction ts with
  | nil => rfl
  | cons c t ih =>
    show (Jvm.Cond.and c (allAtoms t)).before a st = _
    rw [Jvm.Cond.before_and, ih, List.all_cons]
def words1 : List Jvm.Cond := Jvm.Cond.code x code maxLocals ret :: tables_1
/-- a 'code' word, met by the world's own term for the bytes: nothing is compared byte by byte -/
theorem code_word {y : MethodName} {bytes : ByteArray} {mx : Nat} {rt : Option FieldType} {a : Array Value} {s : State} {m : MethodId} {meth : Method} {c : Code} (h1 : s.methodNamed? y = some m) (h2 : s.vm.method? m = some meth) (h3 : meth.code = some c) (h4 : c.code = bytes)
    (h5 : (c.maxLocals == mx && c.exceptionTable.isEmpty && decide (c.maxStack ≤ mostOperands) && decide (meth.sig.returnType = rt) && !meth.locks && decide (parseMethodDescriptor y.desc = some meth.sig)) = true) : (Jvm.Cond.code y bytes mx rt).before a s = true := by
  simp only [Bool.and_eq_true, beq_iff_eq, Bool.not_eq_true', decide_eq_true_eq] at h5
  obtain ⟨⟨⟨⟨⟨g1, g2⟩, g3⟩, g4⟩, g5⟩, g6⟩ := h5
  simp [Cond.before, Cond.holds, Cond.value, h1, h2, h3, h4, g1, g2, g3, g4, g5, g6]
def isCode : Jvm.Cond → Bool
  | .code _ _ _ _ => true
  | _ => false
theorem all_split {L : List Jvm.Cond} {P : Jvm.Cond → Bool} (h1 : L.all (fun c => isCode c || P c) = true) (h2 : ∀ c ∈ L.filter isCode, P c = true) : L.all P = true := by
  refine List.all_eq_true.mpr fun c hc => ?_
  have h := List.all_eq_true.mp h1 c hc
  rcases Bool.eq_false_or_eq_true (isCode c) with hi | hi
  · exact h2 c (List.mem_filter.mpr ⟨hc, hi⟩)
  · simpa [hi] using h
set_option maxRecDepth 65536 in
theorem w_c0 : (Jvm.Cond.code x code maxLocals ret).before args0 about1 = true := code_word (m := ⟨1, 3⟩) (meth := k1m3) (c := k1c3) (by decide +kernel) rfl rfl rfl (by decide +kernel)
set_option maxRecDepth 65536 in
theorem w_c1 : (Jvm.Cond.code ({ cls := "com/example/vestwright/vestwright/InputFilesIsUtf8PinLaw", name := "ch", desc := "(I)C" } : Jvm.MethodName) method_2_code (2 : Nat) (Option.some Jvm.ClassFile.FieldType.char)).before args0 about1 = true := code_word (m := ⟨1, 1⟩) (meth := k1m1) (c := k1c1) (by decide +kernel) rfl rfl rfl (by decide +kernel)
set_option maxRecDepth 65536 in
theorem w_c2 : (Jvm.Cond.code ({ cls := "com/example/vestwright/vestwright/InputFilesIsUtf8PinLaw", name := "make", desc := "(ICCCC)Ljava/lang/String;" } : Jvm.MethodName) method_3_code (5 : Nat) (Option.some (Jvm.ClassFile.FieldType.object "java/lang/String"))).before args0 about1 = true := code_word (m := ⟨1, 2⟩) (meth := k1m2) (c := k1c2) (by decide +kernel) rfl rfl rfl (by decide +kernel)
set_option maxRecDepth 65536 in
theorem w_c3 : (Jvm.Cond.code ({ cls := "java/lang/String", name := "<init>", desc := "([C)V" } : Jvm.MethodName) jdk_42_method_3_code (2 : Nat) (Option.none : Option Jvm.ClassFile.FieldType)).before args0 about1 = true := code_word (m := ⟨7, 1⟩) (meth := k7m1) (c := k7c1) (by decide +kernel) rfl rfl rfl (by decide +kernel)
set_option maxRecDepth 65536 in
theorem w_c4 : (Jvm.Cond.code ({ cls := "java/lang/String", name := "<init>", desc := "([CIILjava/lang/Void;)V" } : Jvm.MethodName) jdk_42_method_149_code (6 : Nat) (Option.none : Option Jvm.ClassFile.FieldType)).before args0 about1 = true := code_word (m := ⟨7, 5⟩) (meth := k7m5) (c := k7c5) (by decide +kernel) rfl rfl rfl (by decide +kernel)
set_option maxRecDepth 65536 in
theorem w_c5 : (Jvm.Cond.code ({ cls := "java/lang/Object", name := "<init>", desc := "()V" } : Jvm.MethodName) object_method_1_code (1 : Nat) (Option.none : Option Jvm.ClassFile.FieldType)).before args0 about1 = true := code_word (m := ⟨0, 0⟩) (meth := k0m0) (c := k0c0) (by decide +kernel) rfl rfl rfl (by decide +kernel)
set_option maxRecDepth 65536 in
theorem w_c6 : (Jvm.Cond.code ({ cls := "com/example/vestwright/vestwright/InputFiles", name := "isUtf8", desc := "(Ljava/lang/String;)Z" } : Jvm.MethodName) prog_23_method_3_code (1 : Nat) (Option.some Jvm.ClassFile.FieldType.boolean)).before args0 about1 = true := code_word (m := ⟨8, 1⟩) (meth := k8m1) (c := k8c1) (by decide +kernel) rfl rfl rfl (by decide +kernel)
set_option maxRecDepth 65536 in
theorem w_c7 : (Jvm.Cond.code ({ cls := "java/lang/String", name := "indexOf", desc := "(I)I" } : Jvm.MethodName) jdk_42_method_79_code (2 : Nat) (Option.some Jvm.ClassFile.FieldType.int)).before args0 about1 = true := code_word (m := ⟨7, 3⟩) (meth := k7m3) (c := k7c3) (by decide +kernel) rfl rfl rfl (by decide +kernel)
set_option maxRecDepth 65536 in
theorem w_c8 : (Jvm.Cond.code ({ cls := "java/lang/String", name := "indexOf", desc := "(II)I" } : Jvm.MethodName) jdk_42_method_80_code (3 : Nat) (Option.some Jvm.ClassFile.FieldType.int)).before args0 about1 = true := code_word (m := ⟨7, 4⟩) (meth := k7m4) (c := k7c4) (by decide +kernel) rfl rfl rfl (by decide +kernel)
set_option maxRecDepth 65536 in
theorem w_c9 : (Jvm.Cond.code ({ cls := "java/lang/String", name := "isLatin1", desc := "()Z" } : Jvm.MethodName) jdk_42_method_154_code (1 : Nat) (Option.some Jvm.ClassFile.FieldType.boolean)).before args0 about1 = true := code_word (m := ⟨7, 7⟩) (meth := k7m7) (c := k7c7) (by decide +kernel) rfl rfl rfl (by decide +kernel)
set_option maxRecDepth 65536 in
theorem w_c10 : (Jvm.Cond.code ({ cls := "java/lang/String", name := "length", desc := "()I" } : Jvm.MethodName) jdk_42_method_54_code (1 : Nat) (Option.some Jvm.ClassFile.FieldType.int)).before args0 about1 = true := code_word (m := ⟨7, 2⟩) (meth := k7m2) (c := k7c2) (by decide +kernel) rfl rfl rfl (by decide +kernel)
set_option maxRecDepth 65536 in
theorem w_c11 : (Jvm.Cond.code ({ cls := "java/lang/String", name := "coder", desc := "()B" } : Jvm.MethodName) jdk_42_method_152_code (1 : Nat) (Option.some Jvm.ClassFile.FieldType.byte)).before args0 about1 = true := code_word (m := ⟨7, 6⟩) (meth := k7m6) (c := k7c6) (by decide +kernel) rfl rfl rfl (by decide +kernel)
set_option maxRecDepth 65536 in
theorem w_c12 : (Jvm.Cond.code ({ cls := "java/lang/StringLatin1", name := "indexOf", desc := "([BIII)I" } : Jvm.MethodName) jdk_43_method_22_code (4 : Nat) (Option.some Jvm.ClassFile.FieldType.int)).before args0 about1 = true := code_word (m := ⟨9, 2⟩) (meth := k9m2) (c := k9c2) (by decide +kernel) rfl rfl rfl (by decide +kernel)
set_option maxRecDepth 65536 in
theorem w_c13 : (Jvm.Cond.code ({ cls := "java/lang/StringLatin1", name := "canEncode", desc := "(I)Z" } : Jvm.MethodName) jdk_43_method_4_code (1 : Nat) (Option.some Jvm.ClassFile.FieldType.boolean)).before args0 about1 = true := code_word (m := ⟨9, 1⟩) (meth := k9m1) (c := k9c1) (by decide +kernel) rfl rfl rfl (by decide +kernel)
set_option maxRecDepth 65536 in
theorem w_c14 : (Jvm.Cond.code ({ cls := "java/lang/StringUTF16", name := "compress", desc := "([CII)[B" } : Jvm.MethodName) jdk_52_method_16_code (6 : Nat) (Option.some (Jvm.ClassFile.FieldType.array Jvm.ClassFile.FieldType.byte))).before args0 about1 = true := code_word (m := ⟨10, 8⟩) (meth := k10m8) (c := k10c8) (by decide +kernel) rfl rfl rfl (by decide +kernel)
set_option maxRecDepth 65536 in
theorem w_c15 : (Jvm.Cond.code ({ cls := "java/lang/StringUTF16", name := "compress", desc := "([CI[BII)I" } : Jvm.MethodName) jdk_52_method_21_code (7 : Nat) (Option.some Jvm.ClassFile.FieldType.int)).before args0 about1 = true := code_word (m := ⟨10, 9⟩) (meth := k10m9) (c := k10c9) (by decide +kernel) rfl rfl rfl (by decide +kernel)
set_option maxRecDepth 65536 in
theorem w_c16 : (Jvm.Cond.code ({ cls := "java/lang/StringUTF16", name := "toBytes", desc := "([CII)[B" } : Jvm.MethodName) jdk_52_method_14_code (5 : Nat) (Option.some (Jvm.ClassFile.FieldType.array Jvm.ClassFile.FieldType.byte))).before args0 about1 = true := code_word (m := ⟨10, 6⟩) (meth := k10m6) (c := k10c6) (by decide +kernel) rfl rfl rfl (by decide +kernel)
set_option maxRecDepth 65536 in
theorem w_c17 : (Jvm.Cond.code ({ cls := "java/lang/StringUTF16", name := "newBytesFor", desc := "(I)[B" } : Jvm.MethodName) jdk_52_method_2_code (1 : Nat) (Option.some (Jvm.ClassFile.FieldType.array Jvm.ClassFile.FieldType.byte))).before args0 about1 = true := code_word (m := ⟨10, 1⟩) (meth := k10m1) (c := k10c1) (by decide +kernel) rfl rfl rfl (by decide +kernel)
set_option maxRecDepth 65536 in
theorem w_c18 : (Jvm.Cond.code ({ cls := "java/lang/StringUTF16", name := "newBytesLength", desc := "(I)I" } : Jvm.MethodName) jdk_52_method_3_code (1 : Nat) (Option.some Jvm.ClassFile.FieldType.int)).before args0 about1 = true := code_word (m := ⟨10, 2⟩) (meth := k10m2) (c := k10c2) (by decide +kernel) rfl rfl rfl (by decide +kernel)
set_option maxRecDepth 65536 in
theorem w_c19 : (Jvm.Cond.code ({ cls := "java/lang/StringUTF16", name := "putChar", desc := "([BII)V" } : Jvm.MethodName) jdk_52_method_4_code (3 : Nat) (Option.none : Option Jvm.ClassFile.FieldType)).before args0 about1 = true := code_word (m := ⟨10, 3⟩) (meth := k10m3) (c := k10c3) (by decide +kernel) rfl rfl rfl (by decide +kernel)
set_option maxRecDepth 65536 in
theorem w_c20 : (Jvm.Cond.code ({ cls := "java/lang/StringUTF16", name := "getChar", desc := "([BI)C" } : Jvm.MethodName) jdk_52_method_5_code (2 : Nat) (Option.some Jvm.ClassFile.FieldType.char)).before args0 about1 = true := code_word (m := ⟨10, 4⟩) (meth := k10m4) (c := k10c4) (by decide +kernel) rfl rfl rfl (by decide +kernel)
set_option maxRecDepth 65536 in
theorem w_c21 : (Jvm.Cond.code ({ cls := "java/lang/StringUTF16", name := "coderFromArrayLen", desc := "([BI)B" } : Jvm.MethodName) jdk_52_method_15_code (2 : Nat) (Option.some Jvm.ClassFile.FieldType.byte)).before args0 about1 = true := code_word (m := ⟨10, 7⟩) (meth := k10m7) (c := k10c7) (by decide +kernel) rfl rfl rfl (by decide +kernel)
set_option maxRecDepth 65536 in
theorem w_c22 : (Jvm.Cond.code ({ cls := "java/lang/StringUTF16", name := "indexOf", desc := "([BIII)I" } : Jvm.MethodName) jdk_52_method_40_code (4 : Nat) (Option.some Jvm.ClassFile.FieldType.int)).before args0 about1 = true := code_word (m := ⟨10, 10⟩) (meth := k10m10) (c := k10c10) (by decide +kernel) rfl rfl rfl (by decide +kernel)
set_option maxRecDepth 65536 in
theorem w_c23 : (Jvm.Cond.code ({ cls := "java/lang/Math", name := "max", desc := "(II)I" } : Jvm.MethodName) jdk_29_method_65_code (2 : Nat) (Option.some Jvm.ClassFile.FieldType.int)).before args0 about1 = true := code_word (m := ⟨11, 1⟩) (meth := k11m1) (c := k11c1) (by decide +kernel) rfl rfl rfl (by decide +kernel)
set_option maxRecDepth 65536 in
theorem w_c24 : (Jvm.Cond.code ({ cls := "java/lang/Math", name := "min", desc := "(II)I" } : Jvm.MethodName) jdk_29_method_69_code (2 : Nat) (Option.some Jvm.ClassFile.FieldType.int)).before args0 about1 = true := code_word (m := ⟨11, 2⟩) (meth := k11m2) (c := k11c2) (by decide +kernel) rfl rfl rfl (by decide +kernel)
set_option maxRecDepth 65536 in
theorem w_c25 : (Jvm.Cond.code ({ cls := "java/lang/StringUTF16", name := "indexOfChar", desc := "([BIII)I" } : Jvm.MethodName) jdk_52_method_47_code (4 : Nat) (Option.some Jvm.ClassFile.FieldType.int)).before args0 about1 = true := code_word (m := ⟨10, 11⟩) (meth := k10m11) (c := k10c11) (by decide +kernel) rfl rfl rfl (by decide +kernel)
set_option maxRecDepth 65536 in
theorem w_c26 : (Jvm.Cond.code ({ cls := "java/lang/StringUTF16", name := "checkBoundsBeginEnd", desc := "(II[B)V" } : Jvm.MethodName) jdk_52_method_93_code (3 : Nat) (Option.none : Option Jvm.ClassFile.FieldType)).before args0 about1 = true := code_word (m := ⟨10, 13⟩) (meth := k10m13) (c := k10c13) (by decide +kernel) rfl rfl rfl (by decide +kernel)
set_option maxRecDepth 65536 in
theorem w_c27 : (Jvm.Cond.code ({ cls := "java/lang/StringUTF16", name := "length", desc := "([B)I" } : Jvm.MethodName) jdk_52_method_6_code (1 : Nat) (Option.some Jvm.ClassFile.FieldType.int)).before args0 about1 = true := code_word (m := ⟨10, 5⟩) (meth := k10m5) (c := k10c5) (by decide +kernel) rfl rfl rfl (by decide +kernel)
set_option maxRecDepth 65536 in
theorem w_c28 : (Jvm.Cond.code ({ cls := "java/lang/String", name := "checkBoundsBeginEnd", desc := "(III)V" } : Jvm.MethodName) jdk_42_method_158_code (3 : Nat) (Option.none : Option Jvm.ClassFile.FieldType)).before args0 about1 = true := code_word (m := ⟨7, 8⟩) (meth := k7m8) (c := k7c8) (by decide +kernel) rfl rfl rfl (by decide +kernel)
set_option maxRecDepth 65536 in
theorem w_c29 : (Jvm.Cond.code ({ cls := "jdk/internal/util/Preconditions", name := "checkFromToIndex", desc := "(IIILjava/util/function/BiFunction;)I" } : Jvm.MethodName) jdk_41_method_12_code (4 : Nat) (Option.some Jvm.ClassFile.FieldType.int)).before args0 about1 = true := code_word (m := ⟨12, 1⟩) (meth := k12m1) (c := k12c1) (by decide +kernel) rfl rfl rfl (by decide +kernel)
set_option maxRecDepth 65536 in
theorem w_c30 : (Jvm.Cond.code ({ cls := "java/lang/StringUTF16", name := "indexOfCharUnsafe", desc := "([BIII)I" } : Jvm.MethodName) jdk_52_method_48_code (5 : Nat) (Option.some Jvm.ClassFile.FieldType.int)).before args0 about1 = true := code_word (m := ⟨10, 12⟩) (meth := k10m12) (c := k10c12) (by decide +kernel) rfl rfl rfl (by decide +kernel)
def codes1 : List Jvm.Cond := [Jvm.Cond.code x code maxLocals ret, Jvm.Cond.code ({ cls := "com/example/vestwright/vestwright/InputFilesIsUtf8PinLaw", name := "ch", desc := "(I)C" } : Jvm.MethodName) method_2_code (2 : Nat) (Option.some Jvm.ClassFile.FieldType.char), Jvm.Cond.code ({ cls := "com/example/vestwright/vestwright/InputFilesIsUtf8PinLaw", name := "make", desc := "(ICCCC)Ljava/lang/String;" } : Jvm.MethodName) method_3_code (5 : Nat) (Option.some (Jvm.ClassFile.FieldType.object "java/lang/String")), Jvm.Cond.code ({ cls := "java/lang/String", name := "<init>", desc := "([C)V" } : Jvm.MethodName) jdk_42_method_3_code (2 : Nat) (Option.none : Option Jvm.ClassFile.FieldType), Jvm.Cond.code ({ cls := "java/lang/String", name := "<init>", desc := "([CIILjava/lang/Void;)V" } : Jvm.MethodName) jdk_42_method_149_code (6 : Nat) (Option.none : Option Jvm.ClassFile.FieldType), Jvm.Cond.code ({ cls := "java/lang/Object", name := "<init>", desc := "()V" } : Jvm.MethodName) object_method_1_code (1 : Nat) (Option.none : Option Jvm.ClassFile.FieldType), Jvm.Cond.code ({ cls := "com/example/vestwright/vestwright/InputFiles", name := "isUtf8", desc := "(Ljava/lang/String;)Z" } : Jvm.MethodName) prog_23_method_3_code (1 : Nat) (Option.some Jvm.ClassFile.FieldType.boolean), Jvm.Cond.code ({ cls := "java/lang/String", name := "indexOf", desc := "(I)I" } : Jvm.MethodName) jdk_42_method_79_code (2 : Nat) (Option.some Jvm.ClassFile.FieldType.int), Jvm.Cond.code ({ cls := "java/lang/String", name := "indexOf", desc := "(II)I" } : Jvm.MethodName) jdk_42_method_80_code (3 : Nat) (Option.some Jvm.ClassFile.FieldType.int), Jvm.Cond.code ({ cls := "java/lang/String", name := "isLatin1", desc := "()Z" } : Jvm.MethodName) jdk_42_method_154_code (1 : Nat) (Option.some Jvm.ClassFile.FieldType.boolean), Jvm.Cond.code ({ cls := "java/lang/String", name := "length", desc := "()I" } : Jvm.MethodName) jdk_42_method_54_code (1 : Nat) (Option.some Jvm.ClassFile.FieldType.int), Jvm.Cond.code ({ cls := "java/lang/String", name := "coder", desc := "()B" } : Jvm.MethodName) jdk_42_method_152_code (1 : Nat) (Option.some Jvm.ClassFile.FieldType.byte), Jvm.Cond.code ({ cls := "java/lang/StringLatin1", name := "indexOf", desc := "([BIII)I" } : Jvm.MethodName) jdk_43_method_22_code (4 : Nat) (Option.some Jvm.ClassFile.FieldType.int), Jvm.Cond.code ({ cls := "java/lang/StringLatin1", name := "canEncode", desc := "(I)Z" } : Jvm.MethodName) jdk_43_method_4_code (1 : Nat) (Option.some Jvm.ClassFile.FieldType.boolean), Jvm.Cond.code ({ cls := "java/lang/StringUTF16", name := "compress", desc := "([CII)[B" } : Jvm.MethodName) jdk_52_method_16_code (6 : Nat) (Option.some (Jvm.ClassFile.FieldType.array Jvm.ClassFile.FieldType.byte)), Jvm.Cond.code ({ cls := "java/lang/StringUTF16", name := "compress", desc := "([CI[BII)I" } : Jvm.MethodName) jdk_52_method_21_code (7 : Nat) (Option.some Jvm.ClassFile.FieldType.int), Jvm.Cond.code ({ cls := "java/lang/StringUTF16", name := "toBytes", desc := "([CII)[B" } : Jvm.MethodName) jdk_52_method_14_code (5 : Nat) (Option.some (Jvm.ClassFile.FieldType.array Jvm.ClassFile.FieldType.byte)), Jvm.Cond.code ({ cls := "java/lang/StringUTF16", name := "newBytesFor", desc := "(I)[B" } : Jvm.MethodName) jdk_52_method_2_code (1 : Nat) (Option.some (Jvm.ClassFile.FieldType.array Jvm.ClassFile.FieldType.byte)), Jvm.Cond.code ({ cls := "java/lang/StringUTF16", name := "newBytesLength", desc := "(I)I" } : Jvm.MethodName) jdk_52_method_3_code (1 : Nat) (Option.some Jvm.ClassFile.FieldType.int), Jvm.Cond.code ({ cls := "java/lang/StringUTF16", name := "putChar", desc := "([BII)V" } : Jvm.MethodName) jdk_52_method_4_code (3 : Nat) (Option.none : Option Jvm.ClassFile.FieldType), Jvm.Cond.code ({ cls := "java/lang/StringUTF16", name := "getChar", desc := "([BI)C" } : Jvm.MethodName) jdk_52_method_5_code (2 : Nat) (Option.some Jvm.ClassFile.FieldType.char), Jvm.Cond.code ({ cls := "java/lang/StringUTF16", name := "coderFromArrayLen", desc := "([BI)B" } : Jvm.MethodName) jdk_52_method_15_code (2 : Nat) (Option.some Jvm.ClassFile.FieldType.byte), Jvm.Cond.code ({ cls := "java/lang/StringUTF16", name := "indexOf", desc := "([BIII)I" } : Jvm.MethodName) jdk_52_method_40_code (4 : Nat) (Option.some Jvm.ClassFile.FieldType.int), Jvm.Cond.code ({ cls := "java/lang/Math", name := "max", desc := "(II)I" } : Jvm.MethodName) jdk_29_method_65_code (2 : Nat) (Option.some Jvm.ClassFile.FieldType.int), Jvm.Cond.code ({ cls := "java/lang/Math", name := "min", desc := "(II)I" } : Jvm.MethodName) jdk_29_method_69_code (2 : Nat) (Option.some Jvm.ClassFile.FieldType.int), Jvm.Cond.code ({ cls := "java/lang/StringUTF16", name := "indexOfChar", desc := "([BIII)I" } : Jvm.MethodName) jdk_52_method_47_code (4 : Nat) (Option.some Jvm.ClassFile.FieldType.int), Jvm.Cond.code ({ cls := "java/lang/StringUTF16", name := "checkBoundsBeginEnd", desc := "(II[B)V" } : Jvm.MethodName) jdk_52_method_93_code (3 : Nat) (Option.none : Option Jvm.ClassFile.FieldType), Jvm.Cond.code ({ cls := "java/lang/StringUTF16", name := "length", desc := "([B)I" } : Jvm.MethodName) jdk_52_method_6_code (1 : Nat) (Option.some Jvm.ClassFile.FieldType.int), Jvm.Cond.code ({ cls := "java/lang/String", name := "checkBoundsBeginEnd", desc := "(III)V" } : Jvm.MethodName) jdk_42_method_158_code (3 : Nat) (Option.none : Option Jvm.ClassFile.FieldType), Jvm.Cond.code ({ cls := "jdk/internal/util/Preconditions", name := "checkFromToIndex", desc := "(IIILjava/util/function/BiFunction;)I" } : Jvm.MethodName) jdk_41_method_12_code (4 : Nat) (Option.some Jvm.ClassFile.FieldType.int), Jvm.Cond.code ({ cls := "java/lang/StringUTF16", name := "indexOfCharUnsafe", desc := "([BIII)I" } : Jvm.MethodName) jdk_52_method_48_code (5 : Nat) (Option.some Jvm.ClassFile.FieldType.int)]
set_option maxRecDepth 65536 in
theorem codes_eq : words1.filter isCode = codes1 := rfl
theorem w_codes : ∀ c ∈ words1.filter isCode, c.before args0 about1 = true := by
  rw [codes_eq]
  intro c hc
  simp only [codes1, List.mem_cons, List.not_mem_nil, or_false] at hc
  rcases hc with rfl | rfl | rfl | rfl | rfl | rfl | rfl | rfl | rfl | rfl | rfl | rfl | rfl | rfl | rfl | rfl | rfl | rfl | rfl | rfl | rfl | rfl | rfl | rfl | rfl | rfl | rfl | rfl | rfl | rfl | rfl
  · exact w_c0
  · exact w_c1
  · exact w_c2
  · exact w_c3
  · exact w_c4
  · exact w_c5
  · exact w_c6
  · exact w_c7
  · exact w_c8
  · exact w_c9
  · exact w_c10
  · exact w_c11
  · exact w_c12
  · exact w_c13
  · exact w_c14
  · exact w_c15
  · exact w_c16
  · exact w_c17
  · exact w_c18
  · exact w_c19
  · exact w_c20
  · exact w_c21
  · exact w_c22
  · exact w_c23
  · exact w_c24
  · exact w_c25
  · exact w_c26
  · exact w_c27
  · exact w_c28
  · exact w_c29
  · exact w_c30
set_option maxRecDepth 65536 in
theorem w_t1 : (words1.take 24).all (fun c => isCode c || c.before args0 about1) = true := by decide +kernel
set_option maxRecDepth 65536 in
theorem w_t2 : ((words1.drop 24).take 24).all (fun c => isCode c || c.before args0 about1) = true := by decide +kernel
set_option maxRecDepth 65536 in
theorem w_t3 : (((words1.drop 24).drop 24).take 24).all (fun c => isCode c || c.before args0 about1) = true := by decide +kernel
set_option maxRecDepth 65536 in
theorem w_t4 : ((((words1.drop 24).drop 24).drop 24).take 24).all (fun c => isCode c || c.before args0 about1) = true := by decide +kernel
set_option maxRecDepth 65536 in
theorem w_t5 : (((((words1.drop 24).drop 24).drop 24).drop 24).take 24).all (fun c => isCode c || c.before args0 about1) = true := by decide +kernel
set_option maxRecDepth 65536 in
theorem w_t6 : (((((words1.drop 24).drop 24).drop 24).drop 24).drop 24).all (fun c => isCode c || c.before args0 about1) = true := by decide +kernel
theorem w_tables : (allAtoms (Jvm.Cond.code x code maxLocals ret :: tables_1)).before args0 about1 = true := by
  rw [allAtoms_all]
  show words1.all (fun c => c.before args0 about1) = true
  refine all_split ?_ w_codes
  rw [← List.take_append_drop 24 words1, List.all_append, w_t1, ← List.take_append_drop 24 (words1.drop 24), List.all_append, w_t2, ← List.take_append_drop 24 ((words1.drop 24).drop 24), List.all_append, w_t3, ← List.take_append_drop 24 (((words1.drop 24).drop 24).drop 24), List.all_append, w_t4, ← List.take_append_drop 24 ((((words1.drop 24).drop 24).drop 24).drop 24), List.all_append, w_t5, w_t6]
  rfl
set_option maxRecDepth 65536 in
theorem w_rest : rest_1_c.before args0 about1 = true := by decide +kernel
set_option maxRecDepth 65536 in
theorem w_case : (Jvm.Cond.and given_1 narrow_1).before args0 about1 = true := by decide +kernel
set_option maxRecDepth 65536 in
theorem w_consts : constsHeld consts_1 about1 := Jvm.Lit.constsHeldB_iff.mp (by decide +kernel)
theorem w_applies : (headSpec (Jvm.Cond.code x code maxLocals ret :: tables_1) room_1).applies x e0.platform about1 = true :=
  (Spec.applies_iff w_frames).mpr ⟨w_running, w_runnable, w_alone, w_named, w_hears, w_ripe, w_room, w_tables⟩
theorem atStart : AtStart classFile x code maxLocals ret World_1 tables_1 room_1 Calls_1 rest_1 Pre_1 launch0 p0 e0 about1 theMethod args0 below0 :=
  ⟨lists_1, trivial, launch0.admits_env _ _ _, launch0.least_env, fairChoices_fair.cas, fairChoices_fair.clock, w_frames, w_args, w_heap, w_applies, ⟨w_consts, trivial⟩, w_rest, w_case⟩
end start1
theorem witness_1 : WitnessClaimed_1 := ⟨start1.p0, start1.e0, start1.about1, start1.theMethod, start1.args0, start1.below0, start1.atStart⟩
end Jvm.Pilot.@@N@@
