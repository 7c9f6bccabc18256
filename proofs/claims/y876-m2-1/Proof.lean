import JvmDerived
import JvmDerived.Pilot.@@N@@Statement
import JvmDerived.Pilot.@@N@@Code
set_option linter.unusedVariables false
set_option linter.unusedSimpArgs false
set_option maxRecDepth 65536
set_option maxHeartbeats 40000000
namespace Jvm.Pilot.@@N@@
open Jvm Jvm.ClassFile Sem Op Lib Jvm.Free Jvm.Stand Jvm.LawKit Jvm.RoadKit Bundle Jvm.Pilot.@@N@@.Jvm.D
section Own
theorem cut {P G : Prop} (f : P → G) (g : P) : G := f g
theorem ha_ge {h0 h : Heap} {a : Addr} (q : h0.size ≤ h.size) (e : a = h.size) : h0.size ≤ a := by rw [e]; exact q
/-- what stands fixed in one invocation's walk -/
abbrev Ev : Type := Program × Launch × Env × Room × State × MethodId × Array Value × List Frame × Method × Code × Nat × (Option Value → Heap → Prop)
abbrev Dc (bytes : ByteArray) (pc : Nat) (i : Instr) (len pc' : Nat) : Prop := decode bytes pc = .ok (i, len) ∧ pc + len = pc'
abbrev Db (bytes : ByteArray) (pc : Nat) (i : Instr) (o : Int) (pc1 pc2 : Nat) : Prop := decode bytes pc = .ok (i, 3) ∧ pc + 3 = pc1 ∧ 0 ≤ (pc : Int) + o ∧ ((pc : Int) + o).toNat = pc2
/-- from this heap, these counts, pc, locals and stack the invocation comes to a return of which its Q holds -/
def Wk : Ev → Heap → Nat → Nat → Nat → Array Slot → List Value → Prop
  | (p, l, e, R, s, m, args, below, meth, c, n0, Q), h, kc, kn, pc, ls, st => ∀ (T : State) (locs : List Loc) (vm0 : Vm) (k0 : Nat), Stand p l e R (s.setVm vm0) m args below meth c T locs kc kn → s.Since vm0 k0 → k0 ≤ h.size → T.heap = h → Fr n0 locs →
    ∃ s₂ o, Steps p.tables e below (T.setTop (mkF m pc ls st)) s₂ ∧ s₂.status = .running ∧ Ended s₂ below o ∧ ∃ v L, o = .returned v ∧ (Q v s₂.heap ∧ Fr n0 L) ∧ ReturnedEndW s o s₂ L R.cells R.slots
def Kf (p : Program) (s : State) (m : MethodId) (meth : Method) (c : Code) (y : MethodName) (bytes : ByteArray) (ml : Nat) (rt : Option FieldType) (Z : State) (n0 : Nat) : Prop :=
  p.tables.exec = Jvm.exec ∧ c.code = bytes ∧ c.maxLocals = ml ∧ meth.sig.returnType = rt ∧ meth.locks = false ∧ Z.Warmed39 s.vm ∧ s.vm.findClass y.cls = some m.cls ∧ meth.name = y.name ∧ n0 ≤ s.heap.size
def Kx (E : Ev) (y : MethodName) (bytes : ByteArray) (ml : Nat) (rt : Option FieldType) (l : Launch) (Z : State) (R : Room) (n0 : Nat) (Q : Option Value → Heap → Prop) : Prop :=
  ∃ p e s m args below meth c, E = (p, l, e, R, s, m, args, below, meth, c, n0, Q) ∧ Kf p s m meth c y bytes ml rt Z n0
/-- a callee's contract at one heap and one row of arguments -/
def Con (l : Launch) (Z : State) (y : MethodName) (bytes : ByteArray) (ml : Nat) (rt : Option FieldType) (rm : Room) (as : Array Value) (h : Heap) (n0 : Nat) (Q : Option Value → Heap → Prop) : Prop :=
  n0 ≤ h.size → ∀ ws : List Jvm.Cond, MetFree l y (head1 (Cond.code y bytes ml rt :: ws) rm) (fun a U => a = as ∧ Z.Warmed39 U.vm ∧ U.heap = h) (fun _ _ _ _ _ => True) (fun _ U o U' => ∃ v L, o = .returned v ∧ (Q v U'.heap ∧ Fr n0 L) ∧ ReturnedEndW U o U' L rm.cells rm.slots)
variable {E : Ev} {y : MethodName} {bytes : ByteArray} {ml : Nat} {rt : Option FieldType} {l : Launch} {Z : State} {R : Room} {n0 : Nat} {Q : Option Value → Heap → Prop} {a0 : Array Value} {h h' : Heap} {kc kn kc' kn' pc pc' pc1 pc2 : Nat} {ls ls' : Array Slot} {st : List Value} {a b : Addr}
theorem Con.of (pn : plainFor y = true) {as : Array Value} {rm : Room} (ef : ∀ m, entryFrame m as ml = mkF m 0 ls []) (body : ∀ E : Ev, Kx E y bytes ml rt l Z rm n0 Q → Wk E h 0 0 0 ls []) : Con l Z y bytes ml rt rm as h n0 Q := by
  intro hn ws
  refine MetFree.of_bodySF pn hisR ?_
  intro p e s m args below meth c s₁ Bd hml0 hP hK
  obtain ⟨ha, hZ, hh⟩ := hP
  subst ha
  have X0 : Stand p l e rm s m args below meth c s₁ [] 0 0 := Stand.of_body Bd
  have e0 : s₁.heap = h := by rw [← hh, Bd.state]; rfl
  obtain ⟨s₂, o, q, r⟩ := body (p, l, e, rm, s, m, args, below, meth, c, n0, Q) ⟨p, e, s, m, args, below, meth, c, rfl, Bd.exec, Bd.bytes, hml0, Bd.returns, Bd.notSynchronized, hZ, findClass_of_methodNamed Bd.named, (name_of_methodNamed Bd.named Bd.method).1, by rw [hh]; exact hn⟩ s₁ [] s.vm 0 (show Stand p l e rm (s.setVm s.vm) m args below meth c s₁ [] 0 0 from X0) ((State.WarmedH.refl s).since _) (Nat.zero_le _) e0 (Fr.nil n0)
  exact ⟨s₂, o, castTop (ef m) q, r⟩
theorem Kf.at {p : Program} {s : State} {m : MethodId} {meth : Method} {c : Code} {vm0 : Vm} {k0 : Nat} (F : Kf p s m meth c y bytes ml rt Z n0) (hS : s.Since vm0 k0) : Kf p (s.setVm vm0) m meth c y bytes ml rt Z n0 :=
  ⟨F.1, F.2.1, F.2.2.1, F.2.2.2.1, F.2.2.2.2.1, State.Warmed39.trans F.2.2.2.2.2.1 hS.1, by rw [show (s.setVm vm0).vm = vm0 from rfl, hS.1.alike.findClass]; exact F.2.2.2.2.2.2.1, F.2.2.2.2.2.2.2.1, F.2.2.2.2.2.2.2.2⟩
theorem Kx.lift {st' : List Value} (K : Kx E y bytes ml rt l Z R n0 Q) (f : ∀ (p : Program) (e : Env) (s : State) (m : MethodId) (args : Array Value) (below : List Frame) (meth : Method) (c : Code), Kf p s m meth c y bytes ml rt Z n0 → ∀ (T : State) (locs : List Loc), Stand p l e R s m args below meth c T locs kc kn → T.heap = h → ∀ t, Steps p.tables e below (T.setTop (mkF m pc' ls' st)) t → Steps p.tables e below (T.setTop (mkF m pc ls st')) t) (k : Wk E h kc kn pc' ls' st) : Wk E h kc kn pc ls st' := by
  obtain ⟨p, e, s, m, args, below, meth, c, rfl, F⟩ := K
  intro T locs vm0 k0 X hS hk0 eT N
  obtain ⟨s₂, o, q, r⟩ := k T locs vm0 k0 X hS hk0 eT N
  exact ⟨s₂, o, f p e (s.setVm vm0) m args below meth c (F.at hS) T locs X eT s₂ q, r⟩
theorem Kx.move (K : Kx E y bytes ml rt l Z R n0 Q) (f : ∀ (p : Program) (e : Env) (s : State) (m : MethodId) (args : Array Value) (below : List Frame) (meth : Method) (c : Code), Kf p s m meth c y bytes ml rt Z n0 → ∀ (T : State) (locs : List Loc), Stand p l e R s m args below meth c T locs kc kn → T.heap = h → Fr n0 locs →
    ∃ (T' : State) (locs' : List Loc) (h' : Heap) (kc' kn' pc' : Nat) (ls' : Array Slot) (st' : List Value), Stand p l e R s m args below meth c T' locs' kc' kn' ∧ T'.heap = h' ∧ Fr n0 locs' ∧ h.size ≤ h'.size ∧ Wk E h' kc' kn' pc' ls' st' ∧ ∀ t, Steps p.tables e below (T'.setTop (mkF m pc' ls' st')) t → Steps p.tables e below (T.setTop (mkF m pc ls st)) t) : Wk E h kc kn pc ls st := by
  obtain ⟨p, e, s, m, args, below, meth, c, rfl, F⟩ := K
  intro T locs vm0 k0 X hS hk0 eT N
  obtain ⟨T', locs', h', kc', kn', pc', ls', st', X', e', N', hgr, k, q'⟩ := f p e (s.setVm vm0) m args below meth c (F.at hS) T locs X eT N
  obtain ⟨s₂, o, q, r⟩ := k T' locs' vm0 k0 X' hS (Nat.le_trans hk0 hgr) e' N'
  exact ⟨s₂, o, q' _ q, r⟩

theorem Kx.aloadN (K : Kx E y bytes ml rt l Z R n0 Q) {k : Fin 4} {v : Value} (hd : Dc bytes pc (.aload_n k) 1 pc') (hl : ls[k.val]? = some (.val v)) (hv : v.isRef = true) (k : Wk E h kc kn pc' ls (v :: st)) : Wk E h kc kn pc ls st := by
  obtain ⟨hd, rfl⟩ := hd
  exact K.lift (fun p e s m args below meth c F T locs X eT t q => XS.aloadN X.here F.1 rfl (hb F.2.1 hd) hl hv q) k
theorem Kx.iloadN (K : Kx E y bytes ml rt l Z R n0 Q) {k : Fin 4} {v : Int32} (hd : Dc bytes pc (.iload_n k) 1 pc') (hl : ls[k.val]? = some (.val (.int v))) (k : Wk E h kc kn pc' ls (.int v :: st)) : Wk E h kc kn pc ls st := by
  obtain ⟨hd, rfl⟩ := hd
  exact K.lift (fun p e s m args below meth c F T locs X eT t q => XS.iloadN X.here F.1 rfl (hb F.2.1 hd) hl q) k
theorem Kx.lloadN (K : Kx E y bytes ml rt l Z R n0 Q) {k : Fin 4} {v : Int64} (hd : Dc bytes pc (.lload_n k) 1 pc') (hl : ls[k.val]? = some (.val (.long v))) (k : Wk E h kc kn pc' ls (.long v :: st)) : Wk E h kc kn pc ls st := by
  obtain ⟨hd, rfl⟩ := hd
  exact K.lift (fun p e s m args below meth c F T locs X eT t q => XS.lloadN X.here F.1 rfl (hb F.2.1 hd) hl q) k
theorem Kx.istoreN (K : Kx E y bytes ml rt l Z R n0 Q) {k : Fin 4} {x : Int32} (ls' : Array Slot) (hd : Dc bytes pc (.istore_n k) 1 pc') (hl : storeLocals ls k.val (.int x) = some ls') (k : Wk E h kc kn pc' ls' st) : Wk E h kc kn pc ls (.int x :: st) := by
  obtain ⟨hd, rfl⟩ := hd
  exact K.lift (fun p e s m args below meth c F T locs X eT t q => XS.istoreN X.here F.1 rfl (hb F.2.1 hd) rfl hl q) k
theorem Kx.lstoreN (K : Kx E y bytes ml rt l Z R n0 Q) {k : Fin 4} {x : Int64} (ls' : Array Slot) (hd : Dc bytes pc (.lstore_n k) 1 pc') (hl : storeLocals ls k.val (.long x) = some ls') (k : Wk E h kc kn pc' ls' st) : Wk E h kc kn pc ls (.long x :: st) := by
  obtain ⟨hd, rfl⟩ := hd
  exact K.lift (fun p e s m args below meth c F T locs X eT t q => XS.lstoreN X.here F.1 rfl (hb F.2.1 hd) rfl hl q) k
theorem Kx.astoreN (K : Kx E y bytes ml rt l Z R n0 Q) {k : Fin 4} {x : Value} (ls' : Array Slot) (hd : Dc bytes pc (.astore_n k) 1 pc') (hv : x.isRef = true) (hl : storeLocals ls k.val x = some ls') (k : Wk E h kc kn pc' ls' st) : Wk E h kc kn pc ls (x :: st) := by
  obtain ⟨hd, rfl⟩ := hd
  exact K.lift (fun p e s m args below meth c F T locs X eT t q => XS.astoreN X.here F.1 rfl (hb F.2.1 hd) rfl hv hl q) k
theorem Kx.aload (K : Kx E y bytes ml rt l Z R n0 Q) {k : Nat} {v : Value} (hd : Dc bytes pc (.aload k) 2 pc') (hl : ls[k]? = some (.val v)) (hv : v.isRef = true) (k : Wk E h kc kn pc' ls (v :: st)) : Wk E h kc kn pc ls st := by
  obtain ⟨hd, rfl⟩ := hd
  exact K.lift (fun p e s m args below meth c F T locs X eT t q => XS.aload X.here F.1 rfl (hb F.2.1 hd) hl hv q) k
theorem Kx.iload (K : Kx E y bytes ml rt l Z R n0 Q) {k : Nat} {v : Int32} (hd : Dc bytes pc (.iload k) 2 pc') (hl : ls[k]? = some (.val (.int v))) (k : Wk E h kc kn pc' ls (.int v :: st)) : Wk E h kc kn pc ls st := by
  obtain ⟨hd, rfl⟩ := hd
  exact K.lift (fun p e s m args below meth c F T locs X eT t q => XS.iload X.here F.1 rfl (hb F.2.1 hd) hl q) k
theorem Kx.lload (K : Kx E y bytes ml rt l Z R n0 Q) {k : Nat} {v : Int64} (hd : Dc bytes pc (.lload k) 2 pc') (hl : ls[k]? = some (.val (.long v))) (k : Wk E h kc kn pc' ls (.long v :: st)) : Wk E h kc kn pc ls st := by
  obtain ⟨hd, rfl⟩ := hd
  exact K.lift (fun p e s m args below meth c F T locs X eT t q => XS.lload X.here F.1 rfl (hb F.2.1 hd) hl q) k
theorem Kx.istore (K : Kx E y bytes ml rt l Z R n0 Q) {k : Nat} {x : Int32} (ls' : Array Slot) (hd : Dc bytes pc (.istore k) 2 pc') (hl : storeLocals ls k (.int x) = some ls') (k : Wk E h kc kn pc' ls' st) : Wk E h kc kn pc ls (.int x :: st) := by
  obtain ⟨hd, rfl⟩ := hd
  exact K.lift (fun p e s m args below meth c F T locs X eT t q => XS.istore X.here F.1 rfl (hb F.2.1 hd) rfl hl q) k
theorem Kx.lstore (K : Kx E y bytes ml rt l Z R n0 Q) {k : Nat} {x : Int64} (ls' : Array Slot) (hd : Dc bytes pc (.lstore k) 2 pc') (hl : storeLocals ls k (.long x) = some ls') (k : Wk E h kc kn pc' ls' st) : Wk E h kc kn pc ls (.long x :: st) := by
  obtain ⟨hd, rfl⟩ := hd
  exact K.lift (fun p e s m args below meth c F T locs X eT t q => XS.lstore X.here F.1 rfl (hb F.2.1 hd) rfl hl q) k
theorem Kx.astore (K : Kx E y bytes ml rt l Z R n0 Q) {k : Nat} {x : Value} (ls' : Array Slot) (hd : Dc bytes pc (.astore k) 2 pc') (hv : x.isRef = true) (hl : storeLocals ls k x = some ls') (k : Wk E h kc kn pc' ls' st) : Wk E h kc kn pc ls (x :: st) := by
  obtain ⟨hd, rfl⟩ := hd
  exact K.lift (fun p e s m args below meth c F T locs X eT t q => XS.astore X.here F.1 rfl (hb F.2.1 hd) rfl hv hl q) k
theorem Kx.iinc (K : Kx E y bytes ml rt l Z R n0 Q) {k : Nat} {cst : Int} {x : Int32} (z : Int32) (ls' : Array Slot) (hd : Dc bytes pc (.iinc k cst) 3 pc') (hl : ls[k]? = some (.val (.int x))) (hz : x + Int32.ofInt cst = z) (hl' : storeLocals ls k (.int z) = some ls') (k : Wk E h kc kn pc' ls' st) : Wk E h kc kn pc ls st := by
  obtain ⟨hd, rfl⟩ := hd
  exact K.lift (fun p e s m args below meth c F T locs X eT t q => XS.iinc X.here F.1 rfl (hb F.2.1 hd) hl (by rw [hz]; exact hl') q) k
theorem Kx.iconst (K : Kx E y bytes ml rt l Z R n0 Q) {i : Int} (z : Int32) (hd : Dc bytes pc (.iconst i) 1 pc') (hz : Int32.ofInt i = z) (k : Wk E h kc kn pc' ls (.int z :: st)) : Wk E h kc kn pc ls st := by
  obtain ⟨hd, rfl⟩ := hd
  exact K.lift (fun p e s m args below meth c F T locs X eT t q => XS.iconst X.here F.1 rfl (hb F.2.1 hd) (by rw [hz]; exact q)) k
theorem Kx.lconst (K : Kx E y bytes ml rt l Z R n0 Q) {i : Fin 2} (z : Int64) (hd : Dc bytes pc (.lconst i) 1 pc') (hz : Int64.ofNat i = z) (k : Wk E h kc kn pc' ls (.long z :: st)) : Wk E h kc kn pc ls st := by
  obtain ⟨hd, rfl⟩ := hd
  exact K.lift (fun p e s m args below meth c F T locs X eT t q => XS.lconst X.here F.1 rfl (hb F.2.1 hd) (by rw [hz]; exact q)) k
theorem Kx.bipush (K : Kx E y bytes ml rt l Z R n0 Q) {i : Int} (z : Int32) (hd : Dc bytes pc (.bipush i) 2 pc') (hz : (Int8.ofInt i).toInt32 = z) (k : Wk E h kc kn pc' ls (.int z :: st)) : Wk E h kc kn pc ls st := by
  obtain ⟨hd, rfl⟩ := hd
  exact K.lift (fun p e s m args below meth c F T locs X eT t q => XS.bipush X.here F.1 rfl (hb F.2.1 hd) (by rw [hz]; exact q)) k
theorem Kx.sipush (K : Kx E y bytes ml rt l Z R n0 Q) {i : Int} (z : Int32) (hd : Dc bytes pc (.sipush i) 3 pc') (hz : (Int16.ofInt i).toInt32 = z) (k : Wk E h kc kn pc' ls (.int z :: st)) : Wk E h kc kn pc ls st := by
  obtain ⟨hd, rfl⟩ := hd
  exact K.lift (fun p e s m args below meth c F T locs X eT t q => XS.sipush X.here F.1 rfl (hb F.2.1 hd) (by rw [hz]; exact q)) k
theorem Kx.aconst_null (K : Kx E y bytes ml rt l Z R n0 Q)  (hd : Dc bytes pc .aconst_null 1 pc') (k : Wk E h kc kn pc' ls (.null :: st)) : Wk E h kc kn pc ls st := by
  obtain ⟨hd, rfl⟩ := hd
  exact K.lift (fun p e s m args below meth c F T locs X eT t q => XS.aconstNull X.here F.1 rfl (hb F.2.1 hd) q) k
theorem Kx.iadd (K : Kx E y bytes ml rt l Z R n0 Q) {x y' : Int32} (hd : Dc bytes pc .iadd 1 pc') (k : Wk E h kc kn pc' ls (.int (x + y') :: st)) : Wk E h kc kn pc ls (.int y' :: .int x :: st) := by
  obtain ⟨hd, rfl⟩ := hd
  exact K.lift (fun p e s m args below meth c F T locs X eT t q => XS.iadd X.here F.1 rfl (hb F.2.1 hd) rfl q) k
theorem Kx.isub (K : Kx E y bytes ml rt l Z R n0 Q) {x y' : Int32} (hd : Dc bytes pc .isub 1 pc') (k : Wk E h kc kn pc' ls (.int (x - y') :: st)) : Wk E h kc kn pc ls (.int y' :: .int x :: st) := by
  obtain ⟨hd, rfl⟩ := hd
  exact K.lift (fun p e s m args below meth c F T locs X eT t q => XS.isub X.here F.1 rfl (hb F.2.1 hd) rfl q) k
theorem Kx.imul (K : Kx E y bytes ml rt l Z R n0 Q) {x y' : Int32} (hd : Dc bytes pc .imul 1 pc') (k : Wk E h kc kn pc' ls (.int (x * y') :: st)) : Wk E h kc kn pc ls (.int y' :: .int x :: st) := by
  obtain ⟨hd, rfl⟩ := hd
  exact K.lift (fun p e s m args below meth c F T locs X eT t q => XS.imul X.here F.1 rfl (hb F.2.1 hd) rfl q) k
theorem Kx.iand (K : Kx E y bytes ml rt l Z R n0 Q) {x y' : Int32} (hd : Dc bytes pc .iand 1 pc') (k : Wk E h kc kn pc' ls (.int (x &&& y') :: st)) : Wk E h kc kn pc ls (.int y' :: .int x :: st) := by
  obtain ⟨hd, rfl⟩ := hd
  exact K.lift (fun p e s m args below meth c F T locs X eT t q => XS.iand X.here F.1 rfl (hb F.2.1 hd) rfl q) k
theorem Kx.ior (K : Kx E y bytes ml rt l Z R n0 Q) {x y' : Int32} (hd : Dc bytes pc .ior 1 pc') (k : Wk E h kc kn pc' ls (.int (x ||| y') :: st)) : Wk E h kc kn pc ls (.int y' :: .int x :: st) := by
  obtain ⟨hd, rfl⟩ := hd
  exact K.lift (fun p e s m args below meth c F T locs X eT t q => XS.ior X.here F.1 rfl (hb F.2.1 hd) rfl q) k
theorem Kx.ixor (K : Kx E y bytes ml rt l Z R n0 Q) {x y' : Int32} (hd : Dc bytes pc .ixor 1 pc') (k : Wk E h kc kn pc' ls (.int (x ^^^ y') :: st)) : Wk E h kc kn pc ls (.int y' :: .int x :: st) := by
  obtain ⟨hd, rfl⟩ := hd
  exact K.lift (fun p e s m args below meth c F T locs X eT t q => XS.ixor X.here F.1 rfl (hb F.2.1 hd) rfl q) k
theorem Kx.ishl (K : Kx E y bytes ml rt l Z R n0 Q) {x y' : Int32} (hd : Dc bytes pc .ishl 1 pc') (k : Wk E h kc kn pc' ls (.int (x <<< (y' &&& 31)) :: st)) : Wk E h kc kn pc ls (.int y' :: .int x :: st) := by
  obtain ⟨hd, rfl⟩ := hd
  exact K.lift (fun p e s m args below meth c F T locs X eT t q => XS.ishl X.here F.1 rfl (hb F.2.1 hd) rfl q) k
theorem Kx.ishr (K : Kx E y bytes ml rt l Z R n0 Q) {x y' : Int32} (hd : Dc bytes pc .ishr 1 pc') (k : Wk E h kc kn pc' ls (.int (x >>> (y' &&& 31)) :: st)) : Wk E h kc kn pc ls (.int y' :: .int x :: st) := by
  obtain ⟨hd, rfl⟩ := hd
  exact K.lift (fun p e s m args below meth c F T locs X eT t q => XS.ishr X.here F.1 rfl (hb F.2.1 hd) rfl q) k
theorem Kx.iushr (K : Kx E y bytes ml rt l Z R n0 Q) {x y' : Int32} (hd : Dc bytes pc .iushr 1 pc') (k : Wk E h kc kn pc' ls (.int ((x.toUInt32 >>> (y' &&& 31).toUInt32).toInt32) :: st)) : Wk E h kc kn pc ls (.int y' :: .int x :: st) := by
  obtain ⟨hd, rfl⟩ := hd
  exact K.lift (fun p e s m args below meth c F T locs X eT t q => XS.iushr X.here F.1 rfl (hb F.2.1 hd) rfl q) k
theorem Kx.ladd (K : Kx E y bytes ml rt l Z R n0 Q) {x y' : Int64} (hd : Dc bytes pc .ladd 1 pc') (k : Wk E h kc kn pc' ls (.long (x + y') :: st)) : Wk E h kc kn pc ls (.long y' :: .long x :: st) := by
  obtain ⟨hd, rfl⟩ := hd
  exact K.lift (fun p e s m args below meth c F T locs X eT t q => XS.ladd X.here F.1 rfl (hb F.2.1 hd) rfl q) k
theorem Kx.lsub (K : Kx E y bytes ml rt l Z R n0 Q) {x y' : Int64} (hd : Dc bytes pc .lsub 1 pc') (k : Wk E h kc kn pc' ls (.long (x - y') :: st)) : Wk E h kc kn pc ls (.long y' :: .long x :: st) := by
  obtain ⟨hd, rfl⟩ := hd
  exact K.lift (fun p e s m args below meth c F T locs X eT t q => XS.lsub X.here F.1 rfl (hb F.2.1 hd) rfl q) k
theorem Kx.lmul (K : Kx E y bytes ml rt l Z R n0 Q) {x y' : Int64} (hd : Dc bytes pc .lmul 1 pc') (k : Wk E h kc kn pc' ls (.long (x * y') :: st)) : Wk E h kc kn pc ls (.long y' :: .long x :: st) := by
  obtain ⟨hd, rfl⟩ := hd
  exact K.lift (fun p e s m args below meth c F T locs X eT t q => XS.lmul X.here F.1 rfl (hb F.2.1 hd) rfl q) k
theorem Kx.land (K : Kx E y bytes ml rt l Z R n0 Q) {x y' : Int64} (hd : Dc bytes pc .land 1 pc') (k : Wk E h kc kn pc' ls (.long (x &&& y') :: st)) : Wk E h kc kn pc ls (.long y' :: .long x :: st) := by
  obtain ⟨hd, rfl⟩ := hd
  exact K.lift (fun p e s m args below meth c F T locs X eT t q => XS.land X.here F.1 rfl (hb F.2.1 hd) rfl q) k
theorem Kx.lor (K : Kx E y bytes ml rt l Z R n0 Q) {x y' : Int64} (hd : Dc bytes pc .lor 1 pc') (k : Wk E h kc kn pc' ls (.long (x ||| y') :: st)) : Wk E h kc kn pc ls (.long y' :: .long x :: st) := by
  obtain ⟨hd, rfl⟩ := hd
  exact K.lift (fun p e s m args below meth c F T locs X eT t q => XS.lor X.here F.1 rfl (hb F.2.1 hd) rfl q) k
theorem Kx.lshl (K : Kx E y bytes ml rt l Z R n0 Q) {x : Int64} {y' : Int32} (hd : Dc bytes pc .lshl 1 pc') (k : Wk E h kc kn pc' ls (.long (x <<< (y' &&& 63).toInt64) :: st)) : Wk E h kc kn pc ls (.int y' :: .long x :: st) := by
  obtain ⟨hd, rfl⟩ := hd
  exact K.lift (fun p e s m args below meth c F T locs X eT t q => XS.lshl X.here F.1 rfl (hb F.2.1 hd) rfl q) k
theorem Kx.lshr (K : Kx E y bytes ml rt l Z R n0 Q) {x : Int64} {y' : Int32} (hd : Dc bytes pc .lshr 1 pc') (k : Wk E h kc kn pc' ls (.long (x >>> (y' &&& 63).toInt64) :: st)) : Wk E h kc kn pc ls (.int y' :: .long x :: st) := by
  obtain ⟨hd, rfl⟩ := hd
  exact K.lift (fun p e s m args below meth c F T locs X eT t q => XS.lshr X.here F.1 rfl (hb F.2.1 hd) rfl q) k
theorem Kx.lushr (K : Kx E y bytes ml rt l Z R n0 Q) {x : Int64} {y' : Int32} (hd : Dc bytes pc .lushr 1 pc') (k : Wk E h kc kn pc' ls (.long ((x.toUInt64 >>> (y' &&& 63).toInt64.toUInt64).toInt64) :: st)) : Wk E h kc kn pc ls (.int y' :: .long x :: st) := by
  obtain ⟨hd, rfl⟩ := hd
  exact K.lift (fun p e s m args below meth c F T locs X eT t q => XS.lushr X.here F.1 rfl (hb F.2.1 hd) rfl q) k
theorem Kx.irem (K : Kx E y bytes ml rt l Z R n0 Q) {x y' : Int32} (hd : Dc bytes pc .irem 1 pc') (hy : y' ≠ 0) (k : Wk E h kc kn pc' ls (.int (x % y') :: st)) : Wk E h kc kn pc ls (.int y' :: .int x :: st) := by
  obtain ⟨hd, rfl⟩ := hd
  exact K.lift (fun p e s m args below meth c F T locs X eT t q => RoadKit.iremM X F.1 rfl (hb F.2.1 hd) rfl hy q) k
theorem Kx.ldiv (K : Kx E y bytes ml rt l Z R n0 Q) {x y' : Int64} (hd : Dc bytes pc .ldiv 1 pc') (hy : y' ≠ 0) (k : Wk E h kc kn pc' ls (.long (x / y') :: st)) : Wk E h kc kn pc ls (.long y' :: .long x :: st) := by
  obtain ⟨hd, rfl⟩ := hd
  exact K.lift (fun p e s m args below meth c F T locs X eT t q => XS.ldiv X.here F.1 rfl (hb F.2.1 hd) rfl hy q) k
theorem Kx.lrem (K : Kx E y bytes ml rt l Z R n0 Q) {x y' : Int64} (hd : Dc bytes pc .lrem 1 pc') (hy : y' ≠ 0) (k : Wk E h kc kn pc' ls (.long (x % y') :: st)) : Wk E h kc kn pc ls (.long y' :: .long x :: st) := by
  obtain ⟨hd, rfl⟩ := hd
  exact K.lift (fun p e s m args below meth c F T locs X eT t q => XS.lrem X.here F.1 rfl (hb F.2.1 hd) rfl hy (by rw [lrem_mod]; exact q)) k
theorem Kx.i2l (K : Kx E y bytes ml rt l Z R n0 Q) {x : Int32} (hd : Dc bytes pc .i2l 1 pc') (k : Wk E h kc kn pc' ls (.long (x.toInt64) :: st)) : Wk E h kc kn pc ls (.int x :: st) := by
  obtain ⟨hd, rfl⟩ := hd
  exact K.lift (fun p e s m args below meth c F T locs X eT t q => XS.i2l X.here F.1 rfl (hb F.2.1 hd) rfl q) k
theorem Kx.l2i (K : Kx E y bytes ml rt l Z R n0 Q) {x : Int64} (hd : Dc bytes pc .l2i 1 pc') (k : Wk E h kc kn pc' ls (.int (x.toInt32) :: st)) : Wk E h kc kn pc ls (.long x :: st) := by
  obtain ⟨hd, rfl⟩ := hd
  exact K.lift (fun p e s m args below meth c F T locs X eT t q => XS.l2i X.here F.1 rfl (hb F.2.1 hd) rfl q) k
theorem Kx.dup (K : Kx E y bytes ml rt l Z R n0 Q) {x : Value} (hd : Dc bytes pc .dup 1 pc') (hc : x.category = 1) (k : Wk E h kc kn pc' ls (x :: x :: st)) : Wk E h kc kn pc ls (x :: st) := by
  obtain ⟨hd, rfl⟩ := hd
  exact K.lift (fun p e s m args below meth c F T locs X eT t q => XS.dup X.here F.1 rfl (hb F.2.1 hd) rfl hc q) k
theorem Kx.pop (K : Kx E y bytes ml rt l Z R n0 Q) {x : Value} (hd : Dc bytes pc .pop 1 pc') (hc : x.category = 1) (k : Wk E h kc kn pc' ls st) : Wk E h kc kn pc ls (x :: st) := by
  obtain ⟨hd, rfl⟩ := hd
  exact K.lift (fun p e s m args below meth c F T locs X eT t q => XS.pop X.here F.1 rfl (hb F.2.1 hd) rfl hc q) k
theorem Kx.dup_x1 (K : Kx E y bytes ml rt l Z R n0 Q) {x x' : Value} (hd : Dc bytes pc .dup_x1 1 pc') (hc : x.category = 1) (hc' : x'.category = 1) (k : Wk E h kc kn pc' ls (x :: x' :: x :: st)) : Wk E h kc kn pc ls (x :: x' :: st) := by
  obtain ⟨hd, rfl⟩ := hd
  exact K.lift (fun p e s m args below meth c F T locs X eT t q => XS.dupX1 X.here F.1 rfl (hb F.2.1 hd) rfl hc hc' q) k
theorem Kx.ldcI (K : Kx E y bytes ml rt l Z R n0 Q) {i : Nat} {v : Int32} (hd : Dc bytes pc (.ldc i) 2 pc') (w : (Cond.constant y.cls i v).before a0 Z = true) (k : Wk E h kc kn pc' ls (.int v :: st)) : Wk E h kc kn pc ls st := by
  obtain ⟨hd, rfl⟩ := hd
  exact K.lift (fun p e s m args below meth c F T locs X eT t q => X.ldcI F.1 F.2.2.2.2.2.2.1 (mvT F.2.2.2.2.2.1 w) rfl (hb F.2.1 hd) q) k
theorem Kx.ldcWI (K : Kx E y bytes ml rt l Z R n0 Q) {i : Nat} {v : Int32} (hd : Dc bytes pc (.ldc_w i) 3 pc') (w : (Cond.constant y.cls i v).before a0 Z = true) (k : Wk E h kc kn pc' ls (.int v :: st)) : Wk E h kc kn pc ls st := by
  obtain ⟨hd, rfl⟩ := hd
  exact K.lift (fun p e s m args below meth c F T locs X eT t q => X.ldcWI F.1 F.2.2.2.2.2.2.1 (mvT F.2.2.2.2.2.1 w) rfl (hb F.2.1 hd) q) k
theorem Kx.ldc2J (K : Kx E y bytes ml rt l Z R n0 Q) {i : Nat} {v : Int64} (hd : Dc bytes pc (.ldc2_w i) 3 pc') (w : (Cond.constantLong y.cls i v).before a0 Z = true) (k : Wk E h kc kn pc' ls (.long v :: st)) : Wk E h kc kn pc ls st := by
  obtain ⟨hd, rfl⟩ := hd
  exact K.lift (fun p e s m args below meth c F T locs X eT t q => X.ldc2J F.1 F.2.2.2.2.2.2.1 (mvT F.2.2.2.2.2.1 w) rfl (hb F.2.1 hd) q) k
theorem Kx.goto (K : Kx E y bytes ml rt l Z R n0 Q) {o : Int} (hd : Db bytes pc (.goto o) o pc1 pc2) (k : Wk E h kc kn pc2 ls st) : Wk E h kc kn pc ls st := by
  obtain ⟨hd, -, h0, h1⟩ := hd
  exact K.lift (fun p e s m args below meth c F T locs X eT t q => XS.goto X.here F.1 rfl rfl (hb F.2.1 hd) h0 h1 q) k
theorem Kx.ic_eq (K : Kx E y bytes ml rt l Z R n0 Q) {o : Int} {x y' : Int32} (hd : Db bytes pc (.if_icmp .eq o) o pc1 pc2) (k1 : x = y' → Wk E h kc kn pc2 ls st) (k2 : ¬ x = y' → Wk E h kc kn pc1 ls st) : Wk E h kc kn pc ls (.int y' :: .int x :: st) := by
  obtain ⟨hd, rfl, h0, h1⟩ := hd
  by_cases u : x = y'
  · exact K.lift (fun p e s m args below meth c F T locs X eT t q => XS.icmpYes X.here F.1 rfl rfl (hb F.2.1 hd) rfl (teq u).1 h0 h1 q) (k1 u)
  · exact K.lift (fun p e s m args below meth c F T locs X eT t q => XS.icmpNo X.here F.1 rfl (hb F.2.1 hd) rfl (feq u).1 q) (k2 u)
theorem Kx.if_eq (K : Kx E y bytes ml rt l Z R n0 Q) {o : Int} {x : Int32} (hd : Db bytes pc (.ifCond .eq o) o pc1 pc2) (k1 : x = 0 → Wk E h kc kn pc2 ls st) (k2 : ¬ x = 0 → Wk E h kc kn pc1 ls st) : Wk E h kc kn pc ls (.int x :: st) := by
  obtain ⟨hd, rfl, h0, h1⟩ := hd
  by_cases u : x = 0
  · exact K.lift (fun p e s m args below meth c F T locs X eT t q => XS.ifYes X.here F.1 rfl rfl (hb F.2.1 hd) rfl ((if0 _ _).trans (teq u).1) h0 h1 q) (k1 u)
  · exact K.lift (fun p e s m args below meth c F T locs X eT t q => XS.ifNo X.here F.1 rfl (hb F.2.1 hd) rfl ((if0 _ _).trans (feq u).1) q) (k2 u)
theorem Kx.ic_ne (K : Kx E y bytes ml rt l Z R n0 Q) {o : Int} {x y' : Int32} (hd : Db bytes pc (.if_icmp .ne o) o pc1 pc2) (k1 : x = y' → Wk E h kc kn pc1 ls st) (k2 : ¬ x = y' → Wk E h kc kn pc2 ls st) : Wk E h kc kn pc ls (.int y' :: .int x :: st) := by
  obtain ⟨hd, rfl, h0, h1⟩ := hd
  by_cases u : x = y'
  · exact K.lift (fun p e s m args below meth c F T locs X eT t q => XS.icmpNo X.here F.1 rfl (hb F.2.1 hd) rfl (teq u).2 q) (k1 u)
  · exact K.lift (fun p e s m args below meth c F T locs X eT t q => XS.icmpYes X.here F.1 rfl rfl (hb F.2.1 hd) rfl (feq u).2 h0 h1 q) (k2 u)
theorem Kx.if_ne (K : Kx E y bytes ml rt l Z R n0 Q) {o : Int} {x : Int32} (hd : Db bytes pc (.ifCond .ne o) o pc1 pc2) (k1 : x = 0 → Wk E h kc kn pc1 ls st) (k2 : ¬ x = 0 → Wk E h kc kn pc2 ls st) : Wk E h kc kn pc ls (.int x :: st) := by
  obtain ⟨hd, rfl, h0, h1⟩ := hd
  by_cases u : x = 0
  · exact K.lift (fun p e s m args below meth c F T locs X eT t q => XS.ifNo X.here F.1 rfl (hb F.2.1 hd) rfl ((if0 _ _).trans (teq u).2) q) (k1 u)
  · exact K.lift (fun p e s m args below meth c F T locs X eT t q => XS.ifYes X.here F.1 rfl rfl (hb F.2.1 hd) rfl ((if0 _ _).trans (feq u).2) h0 h1 q) (k2 u)
theorem Kx.ic_lt (K : Kx E y bytes ml rt l Z R n0 Q) {o : Int} {x y' : Int32} (hd : Db bytes pc (.if_icmp .lt o) o pc1 pc2) (k1 : x < y' → Wk E h kc kn pc2 ls st) (k2 : ¬ x < y' → Wk E h kc kn pc1 ls st) : Wk E h kc kn pc ls (.int y' :: .int x :: st) := by
  obtain ⟨hd, rfl, h0, h1⟩ := hd
  by_cases u : x < y'
  · exact K.lift (fun p e s m args below meth c F T locs X eT t q => XS.icmpYes X.here F.1 rfl rfl (hb F.2.1 hd) rfl (tlt u).1 h0 h1 q) (k1 u)
  · exact K.lift (fun p e s m args below meth c F T locs X eT t q => XS.icmpNo X.here F.1 rfl (hb F.2.1 hd) rfl (flt u).1 q) (k2 u)
theorem Kx.if_lt (K : Kx E y bytes ml rt l Z R n0 Q) {o : Int} {x : Int32} (hd : Db bytes pc (.ifCond .lt o) o pc1 pc2) (k1 : x < 0 → Wk E h kc kn pc2 ls st) (k2 : ¬ x < 0 → Wk E h kc kn pc1 ls st) : Wk E h kc kn pc ls (.int x :: st) := by
  obtain ⟨hd, rfl, h0, h1⟩ := hd
  by_cases u : x < 0
  · exact K.lift (fun p e s m args below meth c F T locs X eT t q => XS.ifYes X.here F.1 rfl rfl (hb F.2.1 hd) rfl ((if0 _ _).trans (tlt u).1) h0 h1 q) (k1 u)
  · exact K.lift (fun p e s m args below meth c F T locs X eT t q => XS.ifNo X.here F.1 rfl (hb F.2.1 hd) rfl ((if0 _ _).trans (flt u).1) q) (k2 u)
theorem Kx.ic_ge (K : Kx E y bytes ml rt l Z R n0 Q) {o : Int} {x y' : Int32} (hd : Db bytes pc (.if_icmp .ge o) o pc1 pc2) (k1 : x < y' → Wk E h kc kn pc1 ls st) (k2 : ¬ x < y' → Wk E h kc kn pc2 ls st) : Wk E h kc kn pc ls (.int y' :: .int x :: st) := by
  obtain ⟨hd, rfl, h0, h1⟩ := hd
  by_cases u : x < y'
  · exact K.lift (fun p e s m args below meth c F T locs X eT t q => XS.icmpNo X.here F.1 rfl (hb F.2.1 hd) rfl (tlt u).2.1 q) (k1 u)
  · exact K.lift (fun p e s m args below meth c F T locs X eT t q => XS.icmpYes X.here F.1 rfl rfl (hb F.2.1 hd) rfl (flt u).2.1 h0 h1 q) (k2 u)
theorem Kx.if_ge (K : Kx E y bytes ml rt l Z R n0 Q) {o : Int} {x : Int32} (hd : Db bytes pc (.ifCond .ge o) o pc1 pc2) (k1 : x < 0 → Wk E h kc kn pc1 ls st) (k2 : ¬ x < 0 → Wk E h kc kn pc2 ls st) : Wk E h kc kn pc ls (.int x :: st) := by
  obtain ⟨hd, rfl, h0, h1⟩ := hd
  by_cases u : x < 0
  · exact K.lift (fun p e s m args below meth c F T locs X eT t q => XS.ifNo X.here F.1 rfl (hb F.2.1 hd) rfl ((if0 _ _).trans (tlt u).2.1) q) (k1 u)
  · exact K.lift (fun p e s m args below meth c F T locs X eT t q => XS.ifYes X.here F.1 rfl rfl (hb F.2.1 hd) rfl ((if0 _ _).trans (flt u).2.1) h0 h1 q) (k2 u)
theorem Kx.ic_gt (K : Kx E y bytes ml rt l Z R n0 Q) {o : Int} {x y' : Int32} (hd : Db bytes pc (.if_icmp .gt o) o pc1 pc2) (k1 : y' < x → Wk E h kc kn pc2 ls st) (k2 : ¬ y' < x → Wk E h kc kn pc1 ls st) : Wk E h kc kn pc ls (.int y' :: .int x :: st) := by
  obtain ⟨hd, rfl, h0, h1⟩ := hd
  by_cases u : y' < x
  · exact K.lift (fun p e s m args below meth c F T locs X eT t q => XS.icmpYes X.here F.1 rfl rfl (hb F.2.1 hd) rfl (tlt u).2.2.1 h0 h1 q) (k1 u)
  · exact K.lift (fun p e s m args below meth c F T locs X eT t q => XS.icmpNo X.here F.1 rfl (hb F.2.1 hd) rfl (flt u).2.2.1 q) (k2 u)
theorem Kx.if_gt (K : Kx E y bytes ml rt l Z R n0 Q) {o : Int} {x : Int32} (hd : Db bytes pc (.ifCond .gt o) o pc1 pc2) (k1 : 0 < x → Wk E h kc kn pc2 ls st) (k2 : ¬ 0 < x → Wk E h kc kn pc1 ls st) : Wk E h kc kn pc ls (.int x :: st) := by
  obtain ⟨hd, rfl, h0, h1⟩ := hd
  by_cases u : 0 < x
  · exact K.lift (fun p e s m args below meth c F T locs X eT t q => XS.ifYes X.here F.1 rfl rfl (hb F.2.1 hd) rfl ((if0 _ _).trans (tlt u).2.2.1) h0 h1 q) (k1 u)
  · exact K.lift (fun p e s m args below meth c F T locs X eT t q => XS.ifNo X.here F.1 rfl (hb F.2.1 hd) rfl ((if0 _ _).trans (flt u).2.2.1) q) (k2 u)
theorem Kx.ic_le (K : Kx E y bytes ml rt l Z R n0 Q) {o : Int} {x y' : Int32} (hd : Db bytes pc (.if_icmp .le o) o pc1 pc2) (k1 : y' < x → Wk E h kc kn pc1 ls st) (k2 : ¬ y' < x → Wk E h kc kn pc2 ls st) : Wk E h kc kn pc ls (.int y' :: .int x :: st) := by
  obtain ⟨hd, rfl, h0, h1⟩ := hd
  by_cases u : y' < x
  · exact K.lift (fun p e s m args below meth c F T locs X eT t q => XS.icmpNo X.here F.1 rfl (hb F.2.1 hd) rfl (tlt u).2.2.2 q) (k1 u)
  · exact K.lift (fun p e s m args below meth c F T locs X eT t q => XS.icmpYes X.here F.1 rfl rfl (hb F.2.1 hd) rfl (flt u).2.2.2 h0 h1 q) (k2 u)
theorem Kx.if_le (K : Kx E y bytes ml rt l Z R n0 Q) {o : Int} {x : Int32} (hd : Db bytes pc (.ifCond .le o) o pc1 pc2) (k1 : 0 < x → Wk E h kc kn pc1 ls st) (k2 : ¬ 0 < x → Wk E h kc kn pc2 ls st) : Wk E h kc kn pc ls (.int x :: st) := by
  obtain ⟨hd, rfl, h0, h1⟩ := hd
  by_cases u : 0 < x
  · exact K.lift (fun p e s m args below meth c F T locs X eT t q => XS.ifNo X.here F.1 rfl (hb F.2.1 hd) rfl ((if0 _ _).trans (tlt u).2.2.2) q) (k1 u)
  · exact K.lift (fun p e s m args below meth c F T locs X eT t q => XS.ifYes X.here F.1 rfl rfl (hb F.2.1 hd) rfl ((if0 _ _).trans (flt u).2.2.2) h0 h1 q) (k2 u)
theorem Kx.lcmp (K : Kx E y bytes ml rt l Z R n0 Q) {x y' : Int64} (hd : Dc bytes pc .lcmp 1 pc') (k : Wk E h kc kn pc' ls (.int (lcmpW x y') :: st)) : Wk E h kc kn pc ls (.long y' :: .long x :: st) := by
  obtain ⟨hd, rfl⟩ := hd
  exact K.lift (fun p e s m args below meth c F T locs X eT t q => XS.lcmp X.here F.1 rfl (hb F.2.1 hd) rfl q) k
theorem Kx.lc_eq (K : Kx E y bytes ml rt l Z R n0 Q) {o : Int} {x y' : Int64} {pcm : Nat} (hd0 : Dc bytes pc .lcmp 1 pcm) (hd : Db bytes pcm (.ifCond .eq o) o pc1 pc2) (k1 : x = y' → Wk E h kc kn pc2 ls st) (k2 : ¬ x = y' → Wk E h kc kn pc1 ls st) : Wk E h kc kn pc ls (.long y' :: .long x :: st) :=
  K.lcmp hd0 (K.if_eq hd (fun u => k1 ((lw_eq x y').mp u)) (fun u => k2 (fun v => u ((lw_eq x y').mpr v))))
theorem Kx.lc_ne (K : Kx E y bytes ml rt l Z R n0 Q) {o : Int} {x y' : Int64} {pcm : Nat} (hd0 : Dc bytes pc .lcmp 1 pcm) (hd : Db bytes pcm (.ifCond .ne o) o pc1 pc2) (k1 : x = y' → Wk E h kc kn pc1 ls st) (k2 : ¬ x = y' → Wk E h kc kn pc2 ls st) : Wk E h kc kn pc ls (.long y' :: .long x :: st) :=
  K.lcmp hd0 (K.if_ne hd (fun u => k1 ((lw_eq x y').mp u)) (fun u => k2 (fun v => u ((lw_eq x y').mpr v))))
theorem Kx.lc_lt (K : Kx E y bytes ml rt l Z R n0 Q) {o : Int} {x y' : Int64} {pcm : Nat} (hd0 : Dc bytes pc .lcmp 1 pcm) (hd : Db bytes pcm (.ifCond .lt o) o pc1 pc2) (k1 : x < y' → Wk E h kc kn pc2 ls st) (k2 : ¬ x < y' → Wk E h kc kn pc1 ls st) : Wk E h kc kn pc ls (.long y' :: .long x :: st) :=
  K.lcmp hd0 (K.if_lt hd (fun u => k1 ((lw_lt x y').mp u)) (fun u => k2 (fun v => u ((lw_lt x y').mpr v))))
theorem Kx.lc_ge (K : Kx E y bytes ml rt l Z R n0 Q) {o : Int} {x y' : Int64} {pcm : Nat} (hd0 : Dc bytes pc .lcmp 1 pcm) (hd : Db bytes pcm (.ifCond .ge o) o pc1 pc2) (k1 : x < y' → Wk E h kc kn pc1 ls st) (k2 : ¬ x < y' → Wk E h kc kn pc2 ls st) : Wk E h kc kn pc ls (.long y' :: .long x :: st) :=
  K.lcmp hd0 (K.if_ge hd (fun u => k1 ((lw_lt x y').mp u)) (fun u => k2 (fun v => u ((lw_lt x y').mpr v))))
theorem Kx.lc_gt (K : Kx E y bytes ml rt l Z R n0 Q) {o : Int} {x y' : Int64} {pcm : Nat} (hd0 : Dc bytes pc .lcmp 1 pcm) (hd : Db bytes pcm (.ifCond .gt o) o pc1 pc2) (k1 : y' < x → Wk E h kc kn pc2 ls st) (k2 : ¬ y' < x → Wk E h kc kn pc1 ls st) : Wk E h kc kn pc ls (.long y' :: .long x :: st) :=
  K.lcmp hd0 (K.if_gt hd (fun u => k1 ((lw_gt x y').mp u)) (fun u => k2 (fun v => u ((lw_gt x y').mpr v))))
theorem Kx.lc_le (K : Kx E y bytes ml rt l Z R n0 Q) {o : Int} {x y' : Int64} {pcm : Nat} (hd0 : Dc bytes pc .lcmp 1 pcm) (hd : Db bytes pcm (.ifCond .le o) o pc1 pc2) (k1 : y' < x → Wk E h kc kn pc1 ls st) (k2 : ¬ y' < x → Wk E h kc kn pc2 ls st) : Wk E h kc kn pc ls (.long y' :: .long x :: st) :=
  K.lcmp hd0 (K.if_le hd (fun u => k1 ((lw_gt x y').mp u)) (fun u => k2 (fun v => u ((lw_gt x y').mpr v))))
/-- an array: its kind, its length, what each place holds -/
def Ia (Z : State) (h : Heap) (a : Addr) (ty : FieldType) (N : Int32) (f : Int32 → Value) : Prop := ∃ c : Cell, Arr Z h a c ty ∧ c.slots.size = N.toNatClampNeg ∧ ¬ N < 0 ∧ ∀ j : Int32, ¬ j < 0 → j < N → c.slots[j.toNatClampNeg]? = some (f j)
theorem Ia.lt {ty : FieldType} {N : Int32} {f : Int32 → Value} (F : Ia Z h a ty N f) : a < h.size := by obtain ⟨c, A, -⟩ := F; exact A.lt
theorem Ia.ext {ty : FieldType} {N : Int32} {f : Int32 → Value} (F : Ia Z h a ty N f) (X : Ext h h') : Ia Z h' a ty N f := by obtain ⟨c, A, r⟩ := F; exact ⟨c, A.ext X, r⟩
theorem Ia.other {ty : FieldType} {N : Int32} {f : Int32 → Value} {sl : Nat} {v : Value} (F : Ia Z h b ty N f) (W : Wr h h' a sl v) (q : b ≠ a) : Ia Z h' b ty N f := by obtain ⟨c, A, r⟩ := F; exact ⟨c, A.other W q, r⟩
theorem Ia.keep {ty : FieldType} {N : Int32} {f : Int32 → Value} {ws : List Addr} (F : Ia Z h a ty N f) (K : Keep h h' ws) (q : a ∉ ws) : Ia Z h' a ty N f := by obtain ⟨c, A, r⟩ := F; exact ⟨c, ⟨K.2.1 a c A.1 q, A.2⟩, r⟩
theorem Ia.congr {ty : FieldType} {N : Int32} {f g : Int32 → Value} (F : Ia Z h a ty N f) (q : ∀ j : Int32, ¬ j < 0 → j < N → f j = g j) : Ia Z h a ty N g := by
  obtain ⟨c, A, r1, r2, r3⟩ := F
  exact ⟨c, A, r1, r2, fun j h1 h2 => by rw [r3 j h1 h2, q j h1 h2]⟩
theorem Ia.set {ty : FieldType} {N j : Int32} {f : Int32 → Value} {v : Value} (F : Ia Z h a ty N f) (W : Wr h h' a j.toNatClampNeg v) (hj : ¬ j < 0) : Ia Z h' a ty N (fun k => if k = j then v else f k) := by
  obtain ⟨c, A, S, M, G⟩ := F
  refine ⟨_, A.same W, by rw [sz_set]; exact S, M, fun k h1 h2 => ?_⟩
  show _ = some (if k = j then v else f k)
  by_cases u : k = j
  · rw [if_pos u]; exact get_hit (inb_of S (u ▸ ⟨h1, h2⟩)) u
  · rw [if_neg u, get_miss hj h1 u]; exact G k h1 h2
theorem Ia.new {ty : FieldType} {N : Int32} {k : ClassId} (A : Arr Z h a (newA k ty N) ty) (q : ¬ N < 0) : Ia Z h a ty N (fun _ => defaultValue ty) :=
  ⟨_, A, sz_new _ _ _, q, fun j h1 h2 => get_new (by have := inb_of (sz_new k ty N) ⟨h1, h2⟩; rw [sz_new] at this; exact this)⟩
theorem Kx.getF (K : Kx E y bytes ml rt l Z R n0 Q) {i : Nat} {O n d : String} {v : Value} (hd : Dc bytes pc (.getfield i) 3 pc') (w : (Cond.fieldLink y.cls i O n d).before a0 Z = true) (F : Fld Z h a O n d v) (k : Wk E h kc kn pc' ls (v :: st)) : Wk E h kc kn pc ls (.ref a :: st) := by
  obtain ⟨hd, rfl⟩ := hd
  refine K.move (fun p e s m args below meth c G T locs X eT N => ?_)
  obtain ⟨g1, g2, g3, g4, g5, hZ, hown, g8, g9⟩ := G
  have hn : n0 ≤ h.size := by rw [← eT]; exact Nat.le_trans g9 X.same.2.1
  obtain ⟨T', X', e', q'⟩ := RoadKit.getF X g1 hZ hown (host := "") (Or.inl w) Via.refl eT F (g := mkF m pc ls (.ref a :: st)) rfl rfl (hb g2 hd)
  exact ⟨T', _, _, _, _, _, _, _, X', e', N, (Nat.le_refl _), k, fun t q => q' t q⟩
theorem Kx.putF (K : Kx E y bytes ml rt l Z R n0 Q) {i kk : Nat} {O n d C : String} {ty : FieldType} {v old : Value} (hd : Dc bytes pc (.putfield i) 3 pc') (w : (Cond.fieldLink y.cls i O n d).before a0 Z = true) (F : Fld Z h a O n d old) (X0 : Exa Z h a C)
    (L : (Cond.lays C O n d).before a0 Z = true ∨ ((Cond.laysFinal C O n d).before a0 Z = true ∧ y.cls = O ∧ y.name = "<init>")) (wi : (Cond.instantiable C kk).before a0 Z = true) (ht : parseFieldDescriptor d = some ty) (hna : narrow ty v = v) (hf : fits ty v = true) (ge : n0 ≤ a)
    (k : ∀ h', Wr h h' a (RoadKit.slotOf Z O n d) v → Wk E h' kc kn pc' ls st) : Wk E h kc kn pc ls (v :: .ref a :: st) := by
  obtain ⟨hd, rfl⟩ := hd
  refine K.move (fun p e s m args below meth c G T locs X eT N => ?_)
  obtain ⟨g1, g2, g3, g4, g5, hZ, hown, g8, g9⟩ := G
  have hn : n0 ≤ h.size := by rw [← eT]; exact Nat.le_trans g9 X.same.2.1
  obtain ⟨T', h', X', e', W, q'⟩ := RoadKit.putF X g1 hZ hown (host := "") (Or.inl w) Via.refl eT F X0 (L.imp id fun u => ⟨u.1, u.2.1, g8.trans u.2.2⟩) wi ht hna hf (g := mkF m pc ls (v :: .ref a :: st)) rfl rfl (hb g2 hd)
  exact ⟨T', _, _, _, _, _, _, _, X', e', (Fr.snoc X' N ge), (Nat.le_of_eq W.size.symm), k h' W, fun t q => q' t q⟩
theorem Kx.newO (K : Kx E y bytes ml rt l Z R n0 Q) {i sz : Nat} {C : String} (kc' kn' : Nat) (hd : Dc bytes pc (.new i) 3 pc') (w : (Cond.classLink y.cls i C).before a0 Z = true) (wi : (Cond.instantiable C sz).before a0 Z = true) (wz : (Cond.initialized C).before a0 Z = true)
    (hk : kc + 1 = kc') (hk2 : kn + sz = kn') (hc : kc' ≤ R.cells) (hl : kn' ≤ R.slots)
    (k : ∀ h' a, a = h.size → n0 ≤ a → Ext h h' → Exa Z h' a C → (∀ {O nm d : String} {ty : FieldType}, Laid Z a0 C O nm d → parseFieldDescriptor d = some ty → Fld Z h' a O nm d (defaultValue ty)) → Wk E h' kc' kn' pc' ls (.ref a :: st)) : Wk E h kc kn pc ls st := by
  obtain ⟨hd, rfl⟩ := hd
  refine K.move (fun p e s m args below meth c G T locs X eT N => ?_)
  obtain ⟨g1, g2, g3, g4, g5, hZ, hown, g8, g9⟩ := G
  have hn : n0 ≤ h.size := by rw [← eT]; exact Nat.le_trans g9 X.same.2.1
  subst hk hk2
  obtain ⟨T', h', X', e', E', A', D', -, q'⟩ := RoadKit.newO X g1 hZ hown w wi wz eT (g := mkF m pc ls st) rfl (hb g2 hd) hc hl
  exact ⟨T', _, _, _, _, _, _, _, X', e', N, E'.1, k h' h.size rfl hn E' A' D', fun t q => q' t q⟩
theorem Kx.newP (K : Kx E y bytes ml rt l Z R n0 Q) {aty : ArrayType} {N : Int32} {ty : FieldType} {dv : Value} (cap kc' kn' : Nat) (hd : Dc bytes pc (.newarray aty) 2 pc') (w : (Cond.arrayClass ty).before a0 Z = true) (hty : newarray.typeOf aty = ty) (hdv : defaultValue ty = dv) (hN : ¬ N < 0) (hcap : N.toNatClampNeg ≤ cap) (h8 : cap * 8 ≤ 536870912)
    (hk : kc + 1 = kc') (hk2 : kn + cap = kn') (hc : kc' ≤ R.cells) (hl : kn' ≤ R.slots)
    (k : ∀ h' a, a = h.size → n0 ≤ a → Ext h h' → Ia Z h' a ty N (fun _ => dv) → Wk E h' kc' kn' pc' ls (.ref a :: st)) : Wk E h kc kn pc ls (.int N :: st) := by
  obtain ⟨hd, rfl⟩ := hd
  refine K.move (fun p e s m args below meth c G T locs X eT N' => ?_)
  obtain ⟨g1, g2, g3, g4, g5, hZ, hown, g8, g9⟩ := G
  have hn : n0 ≤ h.size := by rw [← eT]; exact Nat.le_trans g9 X.same.2.1
  subst hk hk2 hty hdv
  obtain ⟨T', h', cA, X', e', E', A', q'⟩ := RoadKit.newP X g1 hZ w eT (g := mkF m pc ls (.int N :: st)) rfl (hb g2 hd) rfl hN hcap h8 hc hl
  exact ⟨T', _, _, _, _, _, _, _, X', e', N', E'.1, k h' h.size rfl hn E' (Ia.new A' hN), fun t q => q' t q⟩
theorem Kx.arraylength (K : Kx E y bytes ml rt l Z R n0 Q) {ty : FieldType} {N : Int32} {f : Int32 → Value} (hd : Dc bytes pc .arraylength 1 pc') (A : Ia Z h a ty N f) (k : Wk E h kc kn pc' ls (.int N :: st)) : Wk E h kc kn pc ls (.ref a :: st) := by
  obtain ⟨hd, rfl⟩ := hd
  obtain ⟨cl, A, S, M, G⟩ := A
  refine K.lift (fun p e s m args below meth c F T locs X eT t q => ?_) k
  exact X.arraylength F.1 (by rw [eT]; exact A.1) (State.isArrayOf_alike F.2.2.2.2.2.1.alike A.2.1) (g := mkF m pc ls (.ref a :: st)) rfl rfl (hb F.2.1 hd) t (by rw [len_of S M]; exact q)
theorem Kx.iaload (K : Kx E y bytes ml rt l Z R n0 Q) {N j : Int32} {f : Int32 → Value} {v : Value} (hd : Dc bytes pc .iaload 1 pc') (A : Ia Z h a .int N f) (h1 : ¬ j < 0) (h2 : j < N) (hv : f j = v) (k : Wk E h kc kn pc' ls (v :: st)) : Wk E h kc kn pc ls (.int j :: .ref a :: st) := by
  obtain ⟨hd, rfl⟩ := hd
  obtain ⟨cl, A, S, M, G⟩ := A
  refine K.lift (fun p e s m args below meth c F T locs X eT t q => ?_) k
  exact X.iaload F.1 (by rw [eT]; exact A.1) (State.isArrayOf_alike F.2.2.2.2.2.1.alike A.2.1) A.2.2 (inb_of S ⟨h1, h2⟩) (hv ▸ G j h1 h2) (g := mkF m pc ls (.int j :: .ref a :: st)) rfl rfl (hb F.2.1 hd) t q
theorem Kx.aaload (K : Kx E y bytes ml rt l Z R n0 Q) {N j : Int32} {f : Int32 → Value} {ty : FieldType} {v : Value} (hd : Dc bytes pc .aaload 1 pc') (A : Ia Z h a ty N f) (hty : ty.isReference = true) (h1 : ¬ j < 0) (h2 : j < N) (hv : f j = v) (k : Wk E h kc kn pc' ls (v :: st)) : Wk E h kc kn pc ls (.int j :: .ref a :: st) := by
  obtain ⟨hd, rfl⟩ := hd
  obtain ⟨cl, A, S, M, G⟩ := A
  refine K.lift (fun p e s m args below meth c F T locs X eT t q => ?_) k
  exact X.aaload F.1 (by rw [eT]; exact A.1) (State.isArrayOf_alike F.2.2.2.2.2.1.alike A.2.1) hty A.2.2 (inb_of S ⟨h1, h2⟩) (hv ▸ G j h1 h2) (g := mkF m pc ls (.int j :: .ref a :: st)) rfl rfl (hb F.2.1 hd) t q
theorem Kx.iastore (K : Kx E y bytes ml rt l Z R n0 Q) {N j x : Int32} {f : Int32 → Value} (hd : Dc bytes pc .iastore 1 pc') (A : Ia Z h a .int N f) (h1 : ¬ j < 0) (h2 : j < N) (ge : n0 ≤ a)
    (k : ∀ h', Wr h h' a j.toNatClampNeg (.int x) → Ia Z h' a .int N (fun k => if k = j then .int x else f k) → Wk E h' kc kn pc' ls st) : Wk E h kc kn pc ls (.int x :: .int j :: .ref a :: st) := by
  obtain ⟨hd, rfl⟩ := hd
  refine K.move (fun p e s m args below meth c G T locs X eT N' => ?_)
  obtain ⟨g1, g2, g3, g4, g5, hZ, hown, g8, g9⟩ := G
  have hn : n0 ≤ h.size := by rw [← eT]; exact Nat.le_trans g9 X.same.2.1
  obtain ⟨cl, Ar, S, M, G⟩ := id A
  obtain ⟨T', h', X', e', W, q'⟩ := RoadKit.stI X g1 hZ eT Ar (inb_of S ⟨h1, h2⟩) (g := mkF m pc ls (.int x :: .int j :: .ref a :: st)) rfl rfl (hb g2 hd)
  exact ⟨T', _, _, _, _, _, _, _, X', e', (Fr.snoc X' N' ge), (Nat.le_of_eq W.size.symm), k h' W (A.set W h1), fun t q => q' t q⟩
theorem Kx.getS (K : Kx E y bytes ml rt l Z R n0 Q) {i : Nat} {O n d : String} {v : Value} (hd : Dc bytes pc (.getstatic i) 3 pc') (w : (Cond.fieldLink y.cls i O n d).before a0 Z = true) (F : Sta Z h O n d v) (k : Wk E h kc kn pc' ls (v :: st)) : Wk E h kc kn pc ls st := by
  obtain ⟨hd, rfl⟩ := hd
  refine K.move (fun p e s m args below meth c G T locs X eT N => ?_)
  obtain ⟨g1, g2, g3, g4, g5, hZ, hown, g8, g9⟩ := G
  have hn : n0 ≤ h.size := by rw [← eT]; exact Nat.le_trans g9 X.same.2.1
  obtain ⟨T', X', e', q'⟩ := RoadKit.getS (host := "") X g1 hZ hown w Via.refl eT F (g := mkF m pc ls st) rfl (hb g2 hd)
  exact ⟨T', _, _, _, _, _, _, _, X', e', N, (Nat.le_refl _), k, fun t q => q' t q⟩
def Pl (h : Heap) (x : Addr) : Prop := ∃ c : Cell, h[x]? = some c ∧ c.vm.isStatics = false
theorem plE {C : String} (F : Exa Z h a C) : Pl h a := by obtain ⟨c, _, h1, -, -, h4, -⟩ := F; exact ⟨c, h1, h4⟩
theorem staK {C n d : String} {v : Value} {ws : List Addr} (F : Sta Z h C n d v) (K : Keep h h' ws) (q : ∀ x ∈ ws, Pl h x) : Sta Z h' C n d v := by
  obtain ⟨cf, i, k, f, sa, cell, h1, h2, h3, h4, h5, h6, h7⟩ := F
  refine ⟨cf, i, k, f, sa, cell, h1, h2, h3, h4, K.2.1 sa cell h5 (fun u => ?_), h6, h7⟩
  obtain ⟨c, e1, e2⟩ := q sa u
  cases h5.symm.trans e1
  rw [e2] at h6; cases h6
theorem Kx.initO (K : Kx E y bytes ml rt l Z R n0 Q) {i : Nat} (W : Nat) (hd : Dc bytes pc (.invokespecial i) 3 pc') (w1 : (Cond.methodLink y.cls i Lib.objectInit).before a0 Z = true) (w2 : (Cond.instanceMethod Lib.objectInit).before a0 Z = true) (w3 : (Cond.code Lib.objectInit ⟨#[0xb1]⟩ 1 none).before a0 Z = true)
    (hsz : ls.size = ml) (hf : 1 ≤ R.frames) (hW : (st.map fun v => v.category).sum ≤ W) (hlo : W + 12 ≤ R.locals) (k : Wk E h kc kn pc' ls st) : Wk E h kc kn pc ls (.ref a :: st) := by
  obtain ⟨hd, rfl⟩ := hd
  refine K.move (fun p e s m args below meth c G T locs X eT N => ?_)
  obtain ⟨g1, g2, g3, g4, g5, hZ, hown, g8, g9⟩ := G
  have hn : n0 ≤ h.size := by rw [← eT]; exact Nat.le_trans g9 X.same.2.1
  obtain ⟨T', X', e', q'⟩ := RoadKit.initO X g1 hZ hown w1 w2 w3 eT (g := mkF m pc ls (.ref a :: st)) rfl (by rw [g3]; exact hsz) rfl (hb g2 hd) hf (W := W) (by show 2 * 0 + _ ≤ _; omega) hlo
  exact ⟨T', _, _, _, _, _, _, _, X', e', N, (Nat.le_refl _), k, fun t q => q' t q⟩
theorem Kx.callS (K : Kx E y bytes ml rt l Z R n0 Q) {i : Nat} {y' : MethodName} {bytes' : ByteArray} {ml' : Nat} {rt' : Option FieldType} {rm : Room} {Q' : Option Value → Heap → Prop} (as rest : List Value) (W kc' kn' : Nat) (hd : Dc bytes pc (.invokestatic i) 3 pc')
    (wl : (Cond.methodLink y.cls i y').before a0 Z = true) (ws : (Cond.static y').before a0 Z = true) (wz : (Cond.initialized y'.cls).before a0 Z = true) (wc : (Cond.code y' bytes' ml' rt').before a0 Z = true) (hy : y'.cls ≠ "java/lang/invoke/MethodHandle" ∧ y'.cls ≠ "java/lang/invoke/VarHandle")
    (con : Con l Z y' bytes' ml' rt' rm as.toArray h n0 Q') (hst : st = as.reverse ++ rest) (hlen : ∀ sig, parseMethodDescriptor y'.desc = some sig → as.length = sig.parameters.length) (hsz : ls.size = ml) (hW : (rest.map fun v => v.category).sum ≤ W)
    (hf : rm.frames + 1 ≤ R.frames) (hlo : W + (ml' + 11) + rm.locals ≤ R.locals) (hk : kc + rm.cells = kc') (hk2 : kn + rm.slots = kn') (hc : kc' ≤ R.cells) (hl : kn' ≤ R.slots)
    (k : ∀ v h', Q' v h' → Wk E h' kc' kn' pc' ls (v.toList ++ rest)) : Wk E h kc kn pc ls st := by
  obtain ⟨hd, rfl⟩ := hd
  obtain ⟨p, e, s, m, args, below, meth, c, rfl, G⟩ := K
  intro T locs vm0 k0 X hS hk0 eT N
  obtain ⟨g1, g2, g3, g4, g5, hZ, hown, g8, g9⟩ := G.at hS
  have hn : n0 ≤ h.size := by rw [← eT]; exact Nat.le_trans g9 X.same.2.1
  subst hst hk hk2
  obtain ⟨v, vm₁, ⟨T', L', k', n'⟩, -, X', hS', hgr, ⟨L, ⟨hQ, hFr⟩, e1, e2, e3⟩, q'⟩ := Jvm.RoadKit.callSS X g1 (y := y') hown (mvT hZ wl) (mvT hZ ws) (mvT hZ wz) (mvT hZ wc) hy (backOfS (W := W) (Q := fun v h L => Q' v h ∧ Fr n0 L) (con hn []) hZ wc wz hf hlo) (g := mkF m pc ls (as.reverse ++ rest)) rfl (by rw [g3]; exact hsz) (argsL := as) (rest := rest) hlen rfl (by show 2 * 0 + _ ≤ _; omega) (hb g2 hd) (fun _ _ => ⟨rfl, eT, hc, hl⟩)
  dsimp only [Pt.U, Pt.locs, Pt.cells, Pt.slots] at X' hS' hgr e1 e2 e3 q' hQ
  subst e1 e2 e3
  obtain ⟨s₂, o, q, r⟩ := k v T'.heap hQ T' _ T'.vm T'.heap.size X' (hS.trans hS' (Nat.le_trans hk0 (by rw [← eT]; exact hgr))) (Nat.le_refl _) rfl (Fr.app N hFr)
  exact ⟨s₂, o, q'.trans q, r⟩
theorem Kx.callI (K : Kx E y bytes ml rt l Z R n0 Q) {i : Nat} {y' : MethodName} {bytes' : ByteArray} {ml' : Nat} {rt' : Option FieldType} {rm : Room} {Q' : Option Value → Heap → Prop} (as rest : List Value) (W kc' kn' : Nat) (hd : Dc bytes pc (.invokespecial i) 3 pc') (hy1 : y'.name = "<init>") (hrt : rt' = none)
    (wl : (Cond.methodLink y.cls i y').before a0 Z = true) (wn : (Cond.instanceMethod y').before a0 Z = true) (wz : (Cond.initialized y'.cls).before a0 Z = true) (wc : (Cond.code y' bytes' ml' rt').before a0 Z = true) (hy : y'.cls ≠ "java/lang/invoke/MethodHandle" ∧ y'.cls ≠ "java/lang/invoke/VarHandle")
    (con : Con l Z y' bytes' ml' rt' rm (.ref a :: as).toArray h n0 Q') (hst : st = as.reverse ++ .ref a :: rest) (hlen : ∀ sig, parseMethodDescriptor y'.desc = some sig → as.length = sig.parameters.length) (hsz : ls.size = ml) (hW : (rest.map fun v => v.category).sum ≤ W)
    (hf : rm.frames + 1 ≤ R.frames) (hlo : W + (ml' + 11) + rm.locals ≤ R.locals) (hk : kc + rm.cells = kc') (hk2 : kn + rm.slots = kn') (hc : kc' ≤ R.cells) (hl : kn' ≤ R.slots)
    (k : ∀ v h', Q' v h' → Wk E h' kc' kn' pc' ls (v.toList ++ rest)) : Wk E h kc kn pc ls st := by
  obtain ⟨hd, rfl⟩ := hd
  obtain ⟨p, e, s, m, args, below, meth, c, rfl, G⟩ := K
  intro T locs vm0 k0 X hS hk0 eT N
  obtain ⟨g1, g2, g3, g4, g5, hZ, hown, g8, g9⟩ := G.at hS
  have hn : n0 ≤ h.size := by rw [← eT]; exact Nat.le_trans g9 X.same.2.1
  subst hst hk hk2
  subst hrt
  obtain ⟨v, vm₁, ⟨T', L', k', n'⟩, -, X', hS', hgr, ⟨L, ⟨hQ, hFr⟩, e1, e2, e3⟩, q'⟩ := X.specialBackS g1 (y := y') hy1 hown (mvT hZ wl) (mvT hZ wn) (mvT hZ wc) hy (backOfS (W := W) (Q := fun v h L => Q' v h ∧ Fr n0 L) (con hn []) hZ wc wz hf hlo) (g := mkF m pc ls (as.reverse ++ .ref a :: rest)) rfl (by rw [g3]; exact hsz) (Steps.refl _) (a := a) (argsL := as) (rest := rest) hlen rfl (by show 2 * 0 + _ ≤ _; omega) (hb g2 hd) (fun _ _ => ⟨rfl, eT, hc, hl⟩)
  dsimp only [Pt.U, Pt.locs, Pt.cells, Pt.slots] at X' hS' hgr e1 e2 e3 q' hQ
  subst e1 e2 e3
  obtain ⟨s₂, o, q, r⟩ := k v T'.heap hQ T' _ T'.vm T'.heap.size X' (hS.trans hS' (Nat.le_trans hk0 (by rw [← eT]; exact hgr))) (Nat.le_refl _) rfl (Fr.app N hFr)
  exact ⟨s₂, o, q'.trans q, r⟩
theorem Kx.callV (K : Kx E y bytes ml rt l Z R n0 Q) {i : Nat} {y' : MethodName} {bytes' : ByteArray} {ml' : Nat} {rt' : Option FieldType} {rm : Room} {Q' : Option Value → Heap → Prop} (as rest : List Value) (W kc' kn' : Nat) {C : String} (hd : Dc bytes pc (.invokevirtual i) 3 pc')
    (wl : (Cond.methodLink y.cls i y').before a0 Z = true) (wd : (Cond.declares y').before a0 Z = true) (wse : (Cond.selects C y' y').before a0 Z = true) (wn : (Cond.instanceMethod y').before a0 Z = true) (wz : (Cond.initialized y'.cls).before a0 Z = true) (wc : (Cond.code y' bytes' ml' rt').before a0 Z = true) (hy : y'.cls ≠ "java/lang/invoke/MethodHandle" ∧ y'.cls ≠ "java/lang/invoke/VarHandle")
    (con : Con l Z y' bytes' ml' rt' rm (.ref a :: as).toArray h n0 Q') (X0 : Exa Z h a C) (hst : st = as.reverse ++ .ref a :: rest) (hlen : ∀ sig, parseMethodDescriptor y'.desc = some sig → as.length = sig.parameters.length) (hsz : ls.size = ml) (hW : (rest.map fun v => v.category).sum ≤ W)
    (hf : rm.frames + 1 ≤ R.frames) (hlo : W + (ml' + 11) + rm.locals ≤ R.locals) (hk : kc + rm.cells = kc') (hk2 : kn + rm.slots = kn') (hc : kc' ≤ R.cells) (hl : kn' ≤ R.slots)
    (k : ∀ v h', Q' v h' → Wk E h' kc' kn' pc' ls (v.toList ++ rest)) : Wk E h kc kn pc ls st := by
  obtain ⟨hd, rfl⟩ := hd
  obtain ⟨p, e, s, m, args, below, meth, c, rfl, G⟩ := K
  intro T locs vm0 k0 X hS hk0 eT N
  obtain ⟨g1, g2, g3, g4, g5, hZ, hown, g8, g9⟩ := G.at hS
  have hn : n0 ≤ h.size := by rw [← eT]; exact Nat.le_trans g9 X.same.2.1
  subst hst hk hk2
  obtain ⟨cq, kq, qa, qb, qc⟩ := isOf hZ eT X0
  obtain ⟨v, vm₁, ⟨T', L', k', n'⟩, -, X', hS', hgr, ⟨L, ⟨hQ, hFr⟩, e1, e2, e3⟩, q'⟩ := X.virtualBackS g1 (y := y') (z := y') hown (mvT hZ wl) (mvT hZ wd) (notFace_of_selects (args := #[]) (mvT hZ wse)) (mvT hZ wse) (mvT hZ wn) hy (backOfS (W := W) (Q := fun v h L => Q' v h ∧ Fr n0 L) (con hn []) hZ wc wz hf hlo) qa qc (g := mkF m pc ls (as.reverse ++ .ref a :: rest)) rfl (by rw [g3]; exact hsz) (Steps.refl _) (argsL := as) (rest := rest) hlen rfl (by show 2 * 0 + _ ≤ _; omega) (hb g2 hd) (fun _ _ => ⟨rfl, eT, hc, hl⟩)
  dsimp only [Pt.U, Pt.locs, Pt.cells, Pt.slots] at X' hS' hgr e1 e2 e3 q' hQ
  subst e1 e2 e3
  obtain ⟨s₂, o, q, r⟩ := k v T'.heap hQ T' _ T'.vm T'.heap.size X' (hS.trans hS' (Nat.le_trans hk0 (by rw [← eT]; exact hgr))) (Nat.le_refl _) rfl (Fr.app N hFr)
  exact ⟨s₂, o, q'.trans q, r⟩
theorem Kx.callP (K : Kx E y bytes ml rt l Z R n0 Q) {i : Nat} {y' : MethodName} {bytes' : ByteArray} {ml' : Nat} {rt' : Option FieldType} {rm : Room} {Q' : Option Value → Heap → Prop} (as rest : List Value) (W kc' kn' : Nat) {C : String} (hd : Dc bytes pc (.invokevirtual i) 3 pc')
    (wl : (Cond.methodLink y.cls i y').before a0 Z = true) (wp : (Cond.privateMethod y').before a0 Z = true) (wse : (Cond.selects y'.cls y' y').before a0 Z = true) (wn : (Cond.instanceMethod y').before a0 Z = true) (wz : (Cond.initialized y'.cls).before a0 Z = true) (wc : (Cond.code y' bytes' ml' rt').before a0 Z = true) (hy : y'.cls ≠ "java/lang/invoke/MethodHandle" ∧ y'.cls ≠ "java/lang/invoke/VarHandle")
    (con : Con l Z y' bytes' ml' rt' rm (.ref a :: as).toArray h n0 Q') (X0 : Exa Z h a C) (hst : st = as.reverse ++ .ref a :: rest) (hlen : ∀ sig, parseMethodDescriptor y'.desc = some sig → as.length = sig.parameters.length) (hsz : ls.size = ml) (hW : (rest.map fun v => v.category).sum ≤ W)
    (hf : rm.frames + 1 ≤ R.frames) (hlo : W + (ml' + 11) + rm.locals ≤ R.locals) (hk : kc + rm.cells = kc') (hk2 : kn + rm.slots = kn') (hc : kc' ≤ R.cells) (hl : kn' ≤ R.slots)
    (k : ∀ v h', Q' v h' → Wk E h' kc' kn' pc' ls (v.toList ++ rest)) : Wk E h kc kn pc ls st := by
  obtain ⟨hd, rfl⟩ := hd
  obtain ⟨p, e, s, m, args, below, meth, c, rfl, G⟩ := K
  intro T locs vm0 k0 X hS hk0 eT N
  obtain ⟨g1, g2, g3, g4, g5, hZ, hown, g8, g9⟩ := G.at hS
  have hn : n0 ≤ h.size := by rw [← eT]; exact Nat.le_trans g9 X.same.2.1
  subst hst hk hk2
  obtain ⟨cq, qa, qb⟩ := X0.cell
  obtain ⟨v, vm₁, ⟨T', L', k', n'⟩, -, X', hS', hgr, ⟨L, ⟨hQ, hFr⟩, e1, e2, e3⟩, q'⟩ := X.privateBackS g1 (y := y') hown (mvT hZ wl) (mvT hZ wn) (mvT hZ wse) (Cond.privateMethod_at (mvP hZ wp (args := #[]))) (mvT hZ wc) hy (backOfS (W := W) (Q := fun v h L => Q' v h ∧ Fr n0 L) (con hn []) hZ wc wz hf hlo) (g := mkF m pc ls (as.reverse ++ .ref a :: rest)) rfl (by rw [g3]; exact hsz) (Steps.refl _) (a := a) (by rw [eT]; exact qa) qb (argsL := as) (rest := rest) hlen rfl (by show 2 * 0 + _ ≤ _; omega) (hb g2 hd) (fun _ _ => ⟨rfl, eT, hc, hl⟩)
  dsimp only [Pt.U, Pt.locs, Pt.cells, Pt.slots] at X' hS' hgr e1 e2 e3 q' hQ
  subst e1 e2 e3
  obtain ⟨s₂, o, q, r⟩ := k v T'.heap hQ T' _ T'.vm T'.heap.size X' (hS.trans hS' (Nat.le_trans hk0 (by rw [← eT]; exact hgr))) (Nat.le_refl _) rfl (Fr.app N hFr)
  exact ⟨s₂, o, q'.trans q, r⟩
/-- how a call goes on: it hands back one value and leaves the heap; a value; nothing; a reference -/
theorem goP {val : Value} {rest : List Value} (k : Wk E h kc kn pc ls (val :: rest)) : ∀ v h', (v = some val ∧ h' = h) → Wk E h' kc kn pc ls (v.toList ++ rest) := fun v h' q => by obtain ⟨rfl, rfl⟩ := q; exact k
theorem goV {val : Value} {rest : List Value} {Qh : Heap → Prop} (k : ∀ h', Qh h' → Wk E h' kc kn pc ls (val :: rest)) : ∀ v h', (v = some val ∧ Qh h') → Wk E h' kc kn pc ls (v.toList ++ rest) := fun v h' q => by obtain ⟨rfl, q⟩ := q; exact k h' q
theorem goN {rest : List Value} (k : Wk E h kc kn pc ls rest) : ∀ v h', (v = (none : Option Value) ∧ h' = h) → Wk E h' kc kn pc ls (v.toList ++ rest) := fun v h' q => by obtain ⟨rfl, rfl⟩ := q; exact k
theorem goU {rest : List Value} {Qh : Heap → Prop} (k : ∀ h', Qh h' → Wk E h' kc kn pc ls rest) : ∀ v h', (v = (none : Option Value) ∧ Qh h') → Wk E h' kc kn pc ls (v.toList ++ rest) := fun v h' q => by obtain ⟨rfl, q⟩ := q; exact k h' q
theorem goR {rest : List Value} {Qr : Addr → Heap → Prop} (k : ∀ a h', Qr a h' → Wk E h' kc kn pc ls (.ref a :: rest)) : ∀ v h', (∃ a, v = some (.ref a) ∧ Qr a h') → Wk E h' kc kn pc ls (v.toList ++ rest) := fun v h' q => by obtain ⟨a, rfl, q⟩ := q; exact k a h' q
theorem goI {rest : List Value} {Qr : Int32 → Heap → Prop} (k : ∀ a h', Qr a h' → Wk E h' kc kn pc ls (.int a :: rest)) : ∀ v h', (∃ a, v = some (.int a) ∧ Qr a h') → Wk E h' kc kn pc ls (v.toList ++ rest) := fun v h' q => by obtain ⟨a, rfl, q⟩ := q; exact k a h' q
theorem goIs {rest : List Value} {Pz : Int32 → Prop} (k : ∀ z, Pz z → Wk E h kc kn pc ls (.int z :: rest)) : ∀ v h', (∃ z, v = some (.int z) ∧ (h' = h ∧ Pz z)) → Wk E h' kc kn pc ls (v.toList ++ rest) := fun v h' q => by obtain ⟨z, rfl, rfl, q⟩ := q; exact k z q
theorem Kx.ldcS (K : Kx E y bytes ml rt l Z R n0 Q) {i : Nat} {text : String} (nn kc' kn' : Nat) (hd : Dc bytes pc (.ldc i) 2 pc') (w : (Cond.stringLink y.cls i text).before a0 Z = true) (wS : ∀ a ∈ Bundle.stringAtoms, a.before a0 Z = true) (hnn : 4 * text.toList.length ≤ nn) (hbig : nn ≤ 536870912)
    (hk : kc + 2 = kc') (hk2 : kn + (nn + 4) = kn') (hc : kc' ≤ R.cells) (hl : kn' ≤ R.slots) (k : ∀ a h', Ext h h' → Wk E h' kc' kn' pc' ls (.ref a :: st)) : Wk E h kc kn pc ls st := by
  obtain ⟨hd, rfl⟩ := hd
  obtain ⟨p, e, s, m, args, below, meth, c, rfl, G⟩ := K
  intro T locs vm0 k0 X hS hk0 eT N
  obtain ⟨g1, g2, g3, g4, g5, hZ, hown, g8, g9⟩ := G.at hS
  subst hk hk2
  obtain ⟨a, T', h', k1, X', e', E', hS', hk', -, -, q'⟩ := RoadKit.ldcS X g1 hZ hown w wS eT hS hk0 (g := mkF m pc ls st) rfl (hb g2 hd) hnn hbig hc hl
  obtain ⟨s₂, o, q, r⟩ := k a h' E' T' _ T'.vm k1 X' hS' hk' e' N
  exact ⟨s₂, o, q' _ q, r⟩
theorem Kx.ret (K : Kx E y bytes ml none l Z R n0 Q) (hd : Dc bytes pc .return_ 1 pc') (hc : kc ≤ R.cells) (hl : kn ≤ R.slots) (hQ : Q none h) : Wk E h kc kn pc ls [] := by
  obtain ⟨p, e, s, m, args, below, meth, c, rfl, G⟩ := K
  intro T locs vm0 k0 X hS hk0 eT N
  obtain ⟨g1, g2, g3, g4, g5, hZ, hown, g8, g9⟩ := G.at hS
  obtain ⟨fs, hr, hrun, hended, hW⟩ := X.leaveW hS (by rw [eT]; exact hk0) (v := none) (fun _ => rfl) g5
  exact ⟨_, _, X.returnOut g1 g4 (hb g2 hd.1) hr, hrun, hended, _, _, rfl, ⟨(by show Q none T.heap; rw [eT]; exact hQ), N⟩, hW.1, hW.2.1, hW.2.2.1, hW.2.2.2.mono hc hl⟩
theorem Kx.retW {t : FieldType} {w : Value} {i : Instr} (K : Kx E y bytes ml (some t) l Z R n0 Q) (hd : Dc bytes pc i 1 pc') (hna : narrow t w = w) (hi : (i = .ireturn ∧ (t = .int ∨ t = .boolean ∨ t = .byte ∨ t = .char ∨ t = .short) ∧ ∃ z, w = .int z) ∨ (i = .lreturn ∧ t = .long ∧ ∃ z, w = .long z) ∨ (i = .dreturn ∧ t = .double ∧ ∃ z, w = .double z) ∨ (i = .freturn ∧ t = .float ∧ ∃ z, w = .float z) ∨ (i = .areturn ∧ t.isReference = true ∧ w.isRef = true)) (hc : kc ≤ R.cells) (hl : kn ≤ R.slots) (hQ : Q (some w) h) : Wk E h kc kn pc ls (w :: st) := by
  obtain ⟨p, e, s, m, args, below, meth, c, rfl, G⟩ := K
  intro T locs vm0 k0 X hS hk0 eT N
  obtain ⟨g1, g2, g3, g4, g5, hZ, hown, g8, g9⟩ := G.at hS
  obtain ⟨fs, hr, hrun, hended, hW⟩ := X.leaveW hS (by rw [eT]; exact hk0) (v := some w) (fun h => by rw [g4] at h; cases h) g5
  exact ⟨_, _, retOut X g1 g4 hna hi (hb g2 hd.1) hr, hrun, hended, _, _, rfl, ⟨(by show Q (some w) T.heap; rw [eT]; exact hQ), N⟩, hW.1, hW.2.1, hW.2.2.1, hW.2.2.2.mono hc hl⟩
theorem Kx.ireturn {t : FieldType} {z : Int32} (K : Kx E y bytes ml (some t) l Z R n0 Q) (hd : Dc bytes pc .ireturn 1 pc') (ht : t = .int ∨ t = .boolean ∨ t = .byte ∨ t = .char ∨ t = .short) (hna : narrow t (.int z) = .int z) (hc : kc ≤ R.cells) (hl : kn ≤ R.slots) (hQ : Q (some (.int z)) h) : Wk E h kc kn pc ls (.int z :: st) :=
  K.retW hd hna (Or.inl ⟨rfl, ht, z, rfl⟩) hc hl hQ
theorem Kx.lreturn {z : Int64} (K : Kx E y bytes ml (some .long) l Z R n0 Q) (hd : Dc bytes pc .lreturn 1 pc') (hc : kc ≤ R.cells) (hl : kn ≤ R.slots) (hQ : Q (some (.long z)) h) : Wk E h kc kn pc ls (.long z :: st) :=
  K.retW hd rfl (Or.inr (Or.inl ⟨rfl, rfl, z, rfl⟩)) hc hl hQ
theorem Kx.areturn {t : FieldType} {w : Value} (K : Kx E y bytes ml (some t) l Z R n0 Q) (hd : Dc bytes pc .areturn 1 pc') (ht : t.isReference = true) (hw : w.isRef = true) (hna : narrow t w = w) (hc : kc ≤ R.cells) (hl : kn ≤ R.slots) (hQ : Q (some w) h) : Wk E h kc kn pc ls (w :: st) :=
  K.retW hd hna (Or.inr (Or.inr (Or.inr (Or.inr ⟨rfl, ht, hw⟩)))) hc hl hQ
end Own
end Jvm.Pilot.@@N@@
namespace Jvm.Pilot.@@N@@
open Jvm Jvm.ClassFile Sem Op Lib Jvm.Free Jvm.Stand Jvm.LawKit Jvm.RoadKit Bundle Jvm.Pilot.@@N@@.Jvm.D
abbrev Hw (Z : State) (a0 : Array Value) : Prop := ∀ d ∈ tables_1, d.before a0 Z = true
theorem mg {α : Type} {l : List α} (i : Nat) {a : α} (h : l[i]? = some a) : a ∈ l := List.mem_of_getElem? h
abbrev oI (x : Int32) : Slot := .val (.int x)
abbrev oJ (x : Int64) : Slot := .val (.long x)
abbrev oA (x : Addr) : Slot := .val (.ref x)
abbrev oU : Slot := .unset
abbrev oT : Slot := .second
abbrev cq0 := jdk_29_method_66_code
abbrev cq1 := jdk_29_method_65_code
abbrev cq2 := jdk_29_method_69_code
abbrev cq3 := prog_58_method_2_code
abbrev cq4 := prog_13_method_1_code
abbrev cq5 := prog_13_method_2_code
abbrev cq6 := prog_13_method_3_code
abbrev cq7 := prog_13_method_4_code
abbrev cq8 := jdk_33_method_47_code
abbrev cq9 := jdk_2101_method_70_code
abbrev cq10 := jdk_29_method_45_code
abbrev cq11 := prog_44_method_2_code
abbrev cq12 := prog_44_method_3_code
abbrev cq13 := prog_16_method_1_code
abbrev cq14 := prog_16_method_3_code
abbrev cq15 := prog_55_method_6_code
abbrev cq16 := jdk_18_method_1_code
abbrev cq17 := jdk_2097_method_25_code
abbrev cq18 := jdk_2101_method_39_code
abbrev cq19 := jdk_2101_method_69_code
abbrev cq20 := jdk_2101_method_3_code
abbrev cq21 := jdk_2101_method_1_code
abbrev cq22 := jdk_2101_method_15_code
abbrev cq23 := jdk_2101_method_13_code
abbrev cq24 := jdk_2101_method_21_code
abbrev cq25 := jdk_2101_method_40_code
abbrev cq26 := jdk_2097_method_148_code
abbrev cq27 := jdk_2097_method_136_code
abbrev cq28 := jdk_65_method_103_code
abbrev cq29 := jdk_65_method_131_code
abbrev cq30 := jdk_65_method_137_code
abbrev cq31 := jdk_65_method_136_code
abbrev cq32 := jdk_2101_method_7_code
abbrev cq33 := jdk_2101_method_64_code
abbrev cq34 := jdk_35_method_48_code
abbrev cq35 := jdk_2101_method_9_code
abbrev cq36 := jdk_2097_method_30_code
abbrev cq37 := jdk_2097_method_29_code
abbrev cq38 := jdk_41_method_12_code
abbrev cq39 := jdk_31_method_18_code
abbrev cq40 := jdk_2097_method_103_code
abbrev cq41 := jdk_2097_method_102_code
abbrev cq42 := jdk_2097_method_101_code
abbrev cq43 := jdk_2097_method_35_code
abbrev cq44 := jdk_2097_method_32_code
abbrev cq45 := jdk_2101_method_53_code
abbrev cq46 := jdk_2101_method_65_code
abbrev cq47 := jdk_2101_method_57_code
abbrev cq48 := jdk_2097_method_62_code
abbrev cq49 := jdk_2097_method_61_code
abbrev cq50 := prog_44_method_1_code
abbrev cq51 := prog_55_method_2_code
abbrev cq52 := prog_55_method_1_code
theorem dX_0 : Dc cq0 0 (.lload_n 0) 1 1 := by decide +kernel
theorem dX_1 : Dc cq0 1 (.lload_n 2) 1 2 := by decide +kernel
theorem dX_2 : Dc cq0 2 .lcmp 1 3 := by decide +kernel
theorem dX_3 : Db cq0 3 (.ifCond .lt 7) 7 6 10 := by decide +kernel
theorem dX_10 : Dc cq0 10 (.lload_n 2) 1 11 := by decide +kernel
theorem dX_11 : Dc cq0 11 .lreturn 1 12 := by decide +kernel
theorem dX_6 : Dc cq0 6 (.lload_n 0) 1 7 := by decide +kernel
theorem dX_7 : Db cq0 7 (.goto 4) 4 10 11 := by decide +kernel
theorem efX (m : MethodId) (x0 : Int64) (x1 : Int64) : entryFrame m #[.long x0, .long x1] 4 = mkF m 0 #[.val (.long x0), .second, .val (.long x1), .second] [] := by first | (simp [entryFrame, mkF, argsToLocals, Value.category]; done) | rfl
theorem pnX : plainFor (⟨"java/lang/Math", "max", "(JJ)J"⟩ : MethodName) = true := Jvm.Free.JP.mathPlain rfl (by decide +kernel)
theorem dXI_0 : Dc cq1 0 (.iload_n 0) 1 1 := by decide +kernel
theorem dXI_1 : Dc cq1 1 (.iload_n 1) 1 2 := by decide +kernel
theorem dXI_2 : Db cq1 2 (.if_icmp .lt 7) 7 5 9 := by decide +kernel
theorem dXI_9 : Dc cq1 9 (.iload_n 1) 1 10 := by decide +kernel
theorem dXI_10 : Dc cq1 10 .ireturn 1 11 := by decide +kernel
theorem dXI_5 : Dc cq1 5 (.iload_n 0) 1 6 := by decide +kernel
theorem dXI_6 : Db cq1 6 (.goto 4) 4 9 10 := by decide +kernel
theorem efXI (m : MethodId) (x0 : Int32) (x1 : Int32) : entryFrame m #[.int x0, .int x1] 2 = mkF m 0 #[.val (.int x0), .val (.int x1)] [] := by first | (simp [entryFrame, mkF, argsToLocals, Value.category]; done) | rfl
theorem pnXI : plainFor (⟨"java/lang/Math", "max", "(II)I"⟩ : MethodName) = true := Jvm.Free.JP.mathPlain rfl (by decide +kernel)
theorem dMN_0 : Dc cq2 0 (.iload_n 0) 1 1 := by decide +kernel
theorem dMN_1 : Dc cq2 1 (.iload_n 1) 1 2 := by decide +kernel
theorem dMN_2 : Db cq2 2 (.if_icmp .gt 7) 7 5 9 := by decide +kernel
theorem dMN_9 : Dc cq2 9 (.iload_n 1) 1 10 := by decide +kernel
theorem dMN_10 : Dc cq2 10 .ireturn 1 11 := by decide +kernel
theorem dMN_5 : Dc cq2 5 (.iload_n 0) 1 6 := by decide +kernel
theorem dMN_6 : Db cq2 6 (.goto 4) 4 9 10 := by decide +kernel
theorem efMN (m : MethodId) (x0 : Int32) (x1 : Int32) : entryFrame m #[.int x0, .int x1] 2 = mkF m 0 #[.val (.int x0), .val (.int x1)] [] := by first | (simp [entryFrame, mkF, argsToLocals, Value.category]; done) | rfl
theorem pnMN : plainFor (⟨"java/lang/Math", "min", "(II)I"⟩ : MethodName) = true := Jvm.Free.JP.mathPlain rfl (by decide +kernel)
theorem dL_0 : Dc cq3 0 (.lload_n 1) 1 1 := by decide +kernel
theorem dL_1 : Dc cq3 1 (.lconst 1) 1 2 := by decide +kernel
theorem dL_2 : Dc cq3 2 .lcmp 1 3 := by decide +kernel
theorem dL_3 : Db cq3 3 (.ifCond .ge 19) 19 6 22 := by decide +kernel
theorem dL_22 : Dc cq3 22 (.lload_n 1) 1 23 := by decide +kernel
theorem dL_23 : Dc cq3 23 .lreturn 1 24 := by decide +kernel
theorem efL (m : MethodId) (x0 : Addr) (x1 : Int64) (x2 : Addr) : entryFrame m #[.ref x0, .long x1, .ref x2] 4 = mkF m 0 #[.val (.ref x0), .val (.long x1), .second, .val (.ref x2)] [] := by first | (simp [entryFrame, mkF, argsToLocals, Value.category]; done) | rfl
theorem pnL : plainFor (⟨"com/example/entry_by_measure/entrybymeasure/util/Bounds", "atLeastOne", "(Ljava/lang/String;JLjava/lang/String;)J"⟩ : MethodName) = true := plainFor_of_name (by first | (simp [plainName, overriddenIn]; done) | decide +kernel)
theorem dBI_0 : Dc cq4 0 (.aload_n 0) 1 1 := by decide +kernel
theorem dBI_1 : Dc cq4 1 (.invokespecial 1) 3 4 := by decide +kernel
theorem wd14 {Z a0} (hw : Hw Z a0) : (Cond.methodLink "com/example/entry_by_measure/entrybymeasure/model/BurstRateLimit" 1 ⟨"java/lang/Object", "<init>", "()V"⟩).before a0 Z = true := hw _ (mg 14 rfl)
theorem wd15 {Z a0} (hw : Hw Z a0) : (Cond.instanceMethod ⟨"java/lang/Object", "<init>", "()V"⟩).before a0 Z = true := hw _ (mg 15 rfl)
theorem wd16 {Z a0} (hw : Hw Z a0) : (Cond.code ⟨"java/lang/Object", "<init>", "()V"⟩ object_method_1_code 1 (Option.none : Option Jvm.ClassFile.FieldType)).before a0 Z = true := hw _ (mg 16 rfl)
theorem dBI_4 : Dc cq4 4 (.aload_n 0) 1 5 := by decide +kernel
theorem dBI_5 : Dc cq4 5 (.ldc 7) 2 7 := by decide +kernel
theorem own_strw : ∀ a ∈ Bundle.stringAtoms, a ∈ tables_1 := by decide +kernel
theorem wd17 {Z a0} (hw : Hw Z a0) : (Cond.stringLink "com/example/entry_by_measure/entrybymeasure/model/BurstRateLimit" 7 "capacity").before a0 Z = true := hw _ (mg 17 rfl)
theorem dBI_7 : Dc cq4 7 (.lload_n 1) 1 8 := by decide +kernel
theorem dBI_8 : Dc cq4 8 (.ldc 9) 2 10 := by decide +kernel
theorem wd25 {Z a0} (hw : Hw Z a0) : (Cond.stringLink "com/example/entry_by_measure/entrybymeasure/model/BurstRateLimit" 9 "token").before a0 Z = true := hw _ (mg 25 rfl)
theorem dBI_10 : Dc cq4 10 (.invokestatic 11) 3 13 := by decide +kernel
theorem wd28 {Z a0} (hw : Hw Z a0) : (Cond.initialized "com/example/entry_by_measure/entrybymeasure/util/Bounds").before a0 Z = true := hw _ (mg 28 rfl)
theorem pd_1 : parseMethodDescriptor "(Ljava/lang/String;JLjava/lang/String;)J" = some ⟨[(.object "java/lang/String"), .long, (.object "java/lang/String")], some .long⟩ := by decide +kernel
theorem wd26 {Z a0} (hw : Hw Z a0) : (Cond.methodLink "com/example/entry_by_measure/entrybymeasure/model/BurstRateLimit" 11 ⟨"com/example/entry_by_measure/entrybymeasure/util/Bounds", "atLeastOne", "(Ljava/lang/String;JLjava/lang/String;)J"⟩).before a0 Z = true := hw _ (mg 26 rfl)
theorem wd27 {Z a0} (hw : Hw Z a0) : (Cond.static ⟨"com/example/entry_by_measure/entrybymeasure/util/Bounds", "atLeastOne", "(Ljava/lang/String;JLjava/lang/String;)J"⟩).before a0 Z = true := hw _ (mg 27 rfl)
theorem wd29 {Z a0} (hw : Hw Z a0) : (Cond.code ⟨"com/example/entry_by_measure/entrybymeasure/util/Bounds", "atLeastOne", "(Ljava/lang/String;JLjava/lang/String;)J"⟩ prog_58_method_2_code 4 (Option.some .long)).before a0 Z = true := hw _ (mg 29 rfl)
theorem dBI_13 : Dc cq4 13 (.putfield 17) 3 16 := by decide +kernel
theorem wd31 {Z a0} (hw : Hw Z a0) : (Cond.laysFinal "com/example/entry_by_measure/entrybymeasure/model/BurstRateLimit" "com/example/entry_by_measure/entrybymeasure/model/BurstRateLimit" "capacity" "J").before a0 Z = true := hw _ (mg 31 rfl)
theorem wd30 {Z a0} (hw : Hw Z a0) : (Cond.fieldLink "com/example/entry_by_measure/entrybymeasure/model/BurstRateLimit" 17 "com/example/entry_by_measure/entrybymeasure/model/BurstRateLimit" "capacity" "J").before a0 Z = true := hw _ (mg 30 rfl)
theorem wd9 {Z a0} (hw : Hw Z a0) : (Cond.instantiable "com/example/entry_by_measure/entrybymeasure/model/BurstRateLimit" 3).before a0 Z = true := hw _ (mg 9 rfl)
theorem wd34 {Z a0} (hw : Hw Z a0) : (Cond.laysFinal "com/example/entry_by_measure/entrybymeasure/model/BurstRateLimit" "com/example/entry_by_measure/entrybymeasure/model/BurstRateLimit" "refill" "J").before a0 Z = true := hw _ (mg 34 rfl)
theorem wd38 {Z a0} (hw : Hw Z a0) : (Cond.laysFinal "com/example/entry_by_measure/entrybymeasure/model/BurstRateLimit" "com/example/entry_by_measure/entrybymeasure/model/BurstRateLimit" "periodMillis" "J").before a0 Z = true := hw _ (mg 38 rfl)
theorem dBI_16 : Dc cq4 16 (.aload_n 0) 1 17 := by decide +kernel
theorem dBI_17 : Dc cq4 17 (.ldc 22) 2 19 := by decide +kernel
theorem wd32 {Z a0} (hw : Hw Z a0) : (Cond.stringLink "com/example/entry_by_measure/entrybymeasure/model/BurstRateLimit" 22 "refill").before a0 Z = true := hw _ (mg 32 rfl)
theorem dBI_19 : Dc cq4 19 (.lload_n 3) 1 20 := by decide +kernel
theorem dBI_20 : Dc cq4 20 (.ldc 9) 2 22 := by decide +kernel
theorem dBI_22 : Dc cq4 22 (.invokestatic 11) 3 25 := by decide +kernel
theorem dBI_25 : Dc cq4 25 (.putfield 24) 3 28 := by decide +kernel
theorem wd33 {Z a0} (hw : Hw Z a0) : (Cond.fieldLink "com/example/entry_by_measure/entrybymeasure/model/BurstRateLimit" 24 "com/example/entry_by_measure/entrybymeasure/model/BurstRateLimit" "refill" "J").before a0 Z = true := hw _ (mg 33 rfl)
theorem dBI_28 : Dc cq4 28 (.aload_n 0) 1 29 := by decide +kernel
theorem dBI_29 : Dc cq4 29 (.ldc 26) 2 31 := by decide +kernel
theorem wd35 {Z a0} (hw : Hw Z a0) : (Cond.stringLink "com/example/entry_by_measure/entrybymeasure/model/BurstRateLimit" 26 "period").before a0 Z = true := hw _ (mg 35 rfl)
theorem dBI_31 : Dc cq4 31 (.lload 5) 2 33 := by decide +kernel
theorem dBI_33 : Dc cq4 33 (.ldc 28) 2 35 := by decide +kernel
theorem wd36 {Z a0} (hw : Hw Z a0) : (Cond.stringLink "com/example/entry_by_measure/entrybymeasure/model/BurstRateLimit" 28 "ms").before a0 Z = true := hw _ (mg 36 rfl)
theorem dBI_35 : Dc cq4 35 (.invokestatic 11) 3 38 := by decide +kernel
theorem dBI_38 : Dc cq4 38 (.putfield 30) 3 41 := by decide +kernel
theorem wd37 {Z a0} (hw : Hw Z a0) : (Cond.fieldLink "com/example/entry_by_measure/entrybymeasure/model/BurstRateLimit" 30 "com/example/entry_by_measure/entrybymeasure/model/BurstRateLimit" "periodMillis" "J").before a0 Z = true := hw _ (mg 37 rfl)
theorem dBI_41 : Dc cq4 41 (.lload_n 1) 1 42 := by decide +kernel
theorem dBI_42 : Dc cq4 42 (.ldc2_w 35) 3 45 := by decide +kernel
theorem wd39 {Z a0} (hw : Hw Z a0) : (Cond.constantLong "com/example/entry_by_measure/entrybymeasure/model/BurstRateLimit" 35 (9223372036854775807 : Int64)).before a0 Z = true := hw _ (mg 39 rfl)
theorem dBI_45 : Dc cq4 45 (.lload 5) 2 47 := by decide +kernel
theorem dBI_47 : Dc cq4 47 .ldiv 1 48 := by decide +kernel
theorem dBI_48 : Dc cq4 48 .lcmp 1 49 := by decide +kernel
theorem dBI_49 : Db cq4 49 (.ifCond .le 19) 19 52 68 := by decide +kernel
theorem dBI_68 : Dc cq4 68 .return_ 1 69 := by decide +kernel
theorem efBI (m : MethodId) (x0 : Addr) (x1 : Int64) (x2 : Int64) (x3 : Int64) : entryFrame m #[.ref x0, .long x1, .long x2, .long x3] 7 = mkF m 0 #[.val (.ref x0), .val (.long x1), .second, .val (.long x2), .second, .val (.long x3), .second] [] := by first | (simp [entryFrame, mkF, argsToLocals, Value.category]; done) | rfl
theorem pnBI : plainFor (⟨"com/example/entry_by_measure/entrybymeasure/model/BurstRateLimit", "<init>", "(JJJ)V"⟩ : MethodName) = true := plainFor_of_name (by first | (simp [plainName, overriddenIn]; done) | decide +kernel)
theorem dGC_0 : Dc cq5 0 (.aload_n 0) 1 1 := by decide +kernel
theorem dGC_1 : Dc cq5 1 (.getfield 17) 3 4 := by decide +kernel
theorem dGC_4 : Dc cq5 4 .lreturn 1 5 := by decide +kernel
theorem efGC (m : MethodId) (x0 : Addr) : entryFrame m #[.ref x0] 1 = mkF m 0 #[.val (.ref x0)] [] := by first | (simp [entryFrame, mkF, argsToLocals, Value.category]; done) | rfl
theorem pnGC : plainFor (⟨"com/example/entry_by_measure/entrybymeasure/model/BurstRateLimit", "capacity", "()J"⟩ : MethodName) = true := plainFor_of_name (by first | (simp [plainName, overriddenIn]; done) | decide +kernel)
theorem dGR_0 : Dc cq6 0 (.aload_n 0) 1 1 := by decide +kernel
theorem dGR_1 : Dc cq6 1 (.getfield 24) 3 4 := by decide +kernel
theorem dGR_4 : Dc cq6 4 .lreturn 1 5 := by decide +kernel
theorem efGR (m : MethodId) (x0 : Addr) : entryFrame m #[.ref x0] 1 = mkF m 0 #[.val (.ref x0)] [] := by first | (simp [entryFrame, mkF, argsToLocals, Value.category]; done) | rfl
theorem pnGR : plainFor (⟨"com/example/entry_by_measure/entrybymeasure/model/BurstRateLimit", "refill", "()J"⟩ : MethodName) = true := plainFor_of_name (by first | (simp [plainName, overriddenIn]; done) | decide +kernel)
theorem dGP_0 : Dc cq7 0 (.aload_n 0) 1 1 := by decide +kernel
theorem dGP_1 : Dc cq7 1 (.getfield 30) 3 4 := by decide +kernel
theorem dGP_4 : Dc cq7 4 .lreturn 1 5 := by decide +kernel
theorem efGP (m : MethodId) (x0 : Addr) : entryFrame m #[.ref x0] 1 = mkF m 0 #[.val (.ref x0)] [] := by first | (simp [entryFrame, mkF, argsToLocals, Value.category]; done) | rfl
theorem pnGP : plainFor (⟨"com/example/entry_by_measure/entrybymeasure/model/BurstRateLimit", "periodMillis", "()J"⟩ : MethodName) = true := plainFor_of_name (by first | (simp [plainName, overriddenIn]; done) | decide +kernel)
theorem dNI_0 : Dc cq8 0 (.iload_n 0) 1 1 := by decide +kernel
theorem dNI_1 : Db cq8 1 (.ifCond .gt 14) 14 4 15 := by decide +kernel
theorem dNI_15 : Dc cq8 15 (.bipush 31) 2 17 := by decide +kernel
theorem dNI_17 : Dc cq8 17 (.istore_n 1) 1 18 := by decide +kernel
theorem dNI_18 : Dc cq8 18 (.iload_n 0) 1 19 := by decide +kernel
theorem dNI_19 : Dc cq8 19 (.ldc_w 264) 3 22 := by decide +kernel
theorem wd85 {Z a0} (hw : Hw Z a0) : (Cond.constant "java/lang/Integer" 264 (65536 : Int32)).before a0 Z = true := hw _ (mg 85 rfl)
theorem dNI_22 : Db cq8 22 (.if_icmp .lt 11) 11 25 33 := by decide +kernel
theorem dNI_25 : Dc cq8 25 (.iinc 1 (-16)) 3 28 := by decide +kernel
theorem dNI_28 : Dc cq8 28 (.iload_n 0) 1 29 := by decide +kernel
theorem dNI_29 : Dc cq8 29 (.bipush 16) 2 31 := by decide +kernel
theorem dNI_31 : Dc cq8 31 .iushr 1 32 := by decide +kernel
theorem dNI_32 : Dc cq8 32 (.istore_n 0) 1 33 := by decide +kernel
theorem dNI_33 : Dc cq8 33 (.iload_n 0) 1 34 := by decide +kernel
theorem dNI_34 : Dc cq8 34 (.sipush 256) 3 37 := by decide +kernel
theorem dNI_37 : Db cq8 37 (.if_icmp .lt 11) 11 40 48 := by decide +kernel
theorem dNI_40 : Dc cq8 40 (.iinc 1 (-8)) 3 43 := by decide +kernel
theorem dNI_43 : Dc cq8 43 (.iload_n 0) 1 44 := by decide +kernel
theorem dNI_44 : Dc cq8 44 (.bipush 8) 2 46 := by decide +kernel
theorem dNI_46 : Dc cq8 46 .iushr 1 47 := by decide +kernel
theorem dNI_47 : Dc cq8 47 (.istore_n 0) 1 48 := by decide +kernel
theorem dNI_48 : Dc cq8 48 (.iload_n 0) 1 49 := by decide +kernel
theorem dNI_49 : Dc cq8 49 (.bipush 16) 2 51 := by decide +kernel
theorem dNI_51 : Db cq8 51 (.if_icmp .lt 10) 10 54 61 := by decide +kernel
theorem dNI_54 : Dc cq8 54 (.iinc 1 (-4)) 3 57 := by decide +kernel
theorem dNI_57 : Dc cq8 57 (.iload_n 0) 1 58 := by decide +kernel
theorem dNI_58 : Dc cq8 58 (.iconst 4) 1 59 := by decide +kernel
theorem dNI_59 : Dc cq8 59 .iushr 1 60 := by decide +kernel
theorem dNI_60 : Dc cq8 60 (.istore_n 0) 1 61 := by decide +kernel
theorem dNI_61 : Dc cq8 61 (.iload_n 0) 1 62 := by decide +kernel
theorem dNI_62 : Dc cq8 62 (.iconst 4) 1 63 := by decide +kernel
theorem dNI_63 : Db cq8 63 (.if_icmp .lt 10) 10 66 73 := by decide +kernel
theorem dNI_66 : Dc cq8 66 (.iinc 1 (-2)) 3 69 := by decide +kernel
theorem dNI_69 : Dc cq8 69 (.iload_n 0) 1 70 := by decide +kernel
theorem dNI_70 : Dc cq8 70 (.iconst 2) 1 71 := by decide +kernel
theorem dNI_71 : Dc cq8 71 .iushr 1 72 := by decide +kernel
theorem dNI_72 : Dc cq8 72 (.istore_n 0) 1 73 := by decide +kernel
theorem dNI_73 : Dc cq8 73 (.iload_n 1) 1 74 := by decide +kernel
theorem dNI_74 : Dc cq8 74 (.iload_n 0) 1 75 := by decide +kernel
theorem dNI_75 : Dc cq8 75 (.iconst 1) 1 76 := by decide +kernel
theorem dNI_76 : Dc cq8 76 .iushr 1 77 := by decide +kernel
theorem dNI_77 : Dc cq8 77 .isub 1 78 := by decide +kernel
theorem dNI_78 : Dc cq8 78 .ireturn 1 79 := by decide +kernel
theorem dNI_4 : Dc cq8 4 (.iload_n 0) 1 5 := by decide +kernel
theorem dNI_5 : Db cq8 5 (.ifCond .ne 8) 8 8 13 := by decide +kernel
theorem dNI_8 : Dc cq8 8 (.bipush 32) 2 10 := by decide +kernel
theorem dNI_10 : Db cq8 10 (.goto 4) 4 13 14 := by decide +kernel
theorem dNI_14 : Dc cq8 14 .ireturn 1 15 := by decide +kernel
theorem dNI_13 : Dc cq8 13 (.iconst 0) 1 14 := by decide +kernel
theorem efNI (m : MethodId) (x0 : Int32) : entryFrame m #[.int x0] 2 = mkF m 0 #[.val (.int x0), .unset] [] := by first | (simp [entryFrame, mkF, argsToLocals, Value.category]; done) | rfl
theorem pnNI : plainFor (⟨"java/lang/Integer", "numberOfLeadingZeros", "(I)I"⟩ : MethodName) = true := plainFor_of_name (by first | (simp [plainName, overriddenIn]; done) | decide +kernel)
theorem dDW_0 : Dc cq9 0 (.iload_n 2) 1 1 := by decide +kernel
theorem dDW_1 : Dc cq9 1 .i2l 1 2 := by decide +kernel
theorem dDW_2 : Dc cq9 2 (.ldc2_w 52) 3 5 := by decide +kernel
theorem wd187 {Z a0} (hw : Hw Z a0) : (Cond.constantLong "java/math/MutableBigInteger" 52 (4294967295 : Int64)).before a0 Z = true := hw _ (mg 187 rfl)
theorem dDW_5 : Dc cq9 5 .land 1 6 := by decide +kernel
theorem dDW_6 : Dc cq9 6 (.lstore_n 3) 1 7 := by decide +kernel
theorem dDW_7 : Dc cq9 7 (.lload_n 3) 1 8 := by decide +kernel
theorem dDW_8 : Dc cq9 8 (.lconst 1) 1 9 := by decide +kernel
theorem dDW_9 : Dc cq9 9 .lcmp 1 10 := by decide +kernel
theorem dDW_10 : Db cq9 10 (.ifCond .ne 24) 24 13 34 := by decide +kernel
theorem dDW_34 : Dc cq9 34 (.lload_n 0) 1 35 := by decide +kernel
theorem dDW_35 : Dc cq9 35 (.iconst 1) 1 36 := by decide +kernel
theorem dDW_36 : Dc cq9 36 .lushr 1 37 := by decide +kernel
theorem dDW_37 : Dc cq9 37 (.lload_n 3) 1 38 := by decide +kernel
theorem dDW_38 : Dc cq9 38 (.iconst 1) 1 39 := by decide +kernel
theorem dDW_39 : Dc cq9 39 .lushr 1 40 := by decide +kernel
theorem dDW_40 : Dc cq9 40 .ldiv 1 41 := by decide +kernel
theorem dDW_41 : Dc cq9 41 (.lstore 7) 2 43 := by decide +kernel
theorem dDW_43 : Dc cq9 43 (.lload_n 0) 1 44 := by decide +kernel
theorem dDW_44 : Dc cq9 44 (.lload 7) 2 46 := by decide +kernel
theorem dDW_46 : Dc cq9 46 (.lload_n 3) 1 47 := by decide +kernel
theorem dDW_47 : Dc cq9 47 .lmul 1 48 := by decide +kernel
theorem dDW_48 : Dc cq9 48 .lsub 1 49 := by decide +kernel
theorem dDW_49 : Dc cq9 49 (.lstore 5) 2 51 := by decide +kernel
theorem dDW_73 : Dc cq9 73 (.lload 5) 2 75 := by decide +kernel
theorem dDW_75 : Dc cq9 75 (.lload_n 3) 1 76 := by decide +kernel
theorem dDW_76 : Dc cq9 76 .lcmp 1 77 := by decide +kernel
theorem dDW_77 : Db cq9 77 (.ifCond .lt 18) 18 80 95 := by decide +kernel
theorem dDW_95 : Dc cq9 95 (.lload 5) 2 97 := by decide +kernel
theorem dDW_97 : Dc cq9 97 (.bipush 32) 2 99 := by decide +kernel
theorem dDW_99 : Dc cq9 99 .lshl 1 100 := by decide +kernel
theorem dDW_100 : Dc cq9 100 (.lload 7) 2 102 := by decide +kernel
theorem dDW_102 : Dc cq9 102 (.ldc2_w 52) 3 105 := by decide +kernel
theorem dDW_105 : Dc cq9 105 .land 1 106 := by decide +kernel
theorem dDW_106 : Dc cq9 106 .lor 1 107 := by decide +kernel
theorem dDW_107 : Dc cq9 107 .lreturn 1 108 := by decide +kernel
theorem dDW_80 : Dc cq9 80 (.lload 5) 2 82 := by decide +kernel
theorem dDW_82 : Dc cq9 82 (.lload_n 3) 1 83 := by decide +kernel
theorem dDW_83 : Dc cq9 83 .lsub 1 84 := by decide +kernel
theorem dDW_84 : Dc cq9 84 (.lstore 5) 2 86 := by decide +kernel
theorem dDW_86 : Dc cq9 86 (.lload 7) 2 88 := by decide +kernel
theorem dDW_88 : Dc cq9 88 (.lconst 1) 1 89 := by decide +kernel
theorem dDW_89 : Dc cq9 89 .ladd 1 90 := by decide +kernel
theorem dDW_90 : Dc cq9 90 (.lstore 7) 2 92 := by decide +kernel
theorem dDW_92 : Db cq9 92 (.goto (-19)) (-19) 95 73 := by decide +kernel
theorem dDW_51 : Dc cq9 51 (.lload 5) 2 53 := by decide +kernel
theorem dDW_53 : Dc cq9 53 (.lconst 0) 1 54 := by decide +kernel
theorem dDW_54 : Dc cq9 54 .lcmp 1 55 := by decide +kernel
theorem dDW_55 : Db cq9 55 (.ifCond .ge 18) 18 58 73 := by decide +kernel
theorem dDW_58 : Dc cq9 58 (.lload 5) 2 60 := by decide +kernel
theorem dDW_60 : Dc cq9 60 (.lload_n 3) 1 61 := by decide +kernel
theorem dDW_61 : Dc cq9 61 .ladd 1 62 := by decide +kernel
theorem dDW_62 : Dc cq9 62 (.lstore 5) 2 64 := by decide +kernel
theorem dDW_64 : Dc cq9 64 (.lload 7) 2 66 := by decide +kernel
theorem dDW_66 : Dc cq9 66 (.lconst 1) 1 67 := by decide +kernel
theorem dDW_67 : Dc cq9 67 .lsub 1 68 := by decide +kernel
theorem dDW_68 : Dc cq9 68 (.lstore 7) 2 70 := by decide +kernel
theorem dDW_70 : Db cq9 70 (.goto (-19)) (-19) 73 51 := by decide +kernel
theorem efDW (m : MethodId) (x0 : Int64) (x1 : Int32) : entryFrame m #[.long x0, .int x1] 9 = mkF m 0 #[.val (.long x0), .second, .val (.int x1), .unset, .unset, .unset, .unset, .unset, .unset] [] := by first | (simp [entryFrame, mkF, argsToLocals, Value.category]; done) | rfl
theorem pnDW : plainFor (⟨"java/math/MutableBigInteger", "divWord", "(JI)J"⟩ : MethodName) = true := plainFor_of_name (by first | (simp [plainName, overriddenIn]; done) | decide +kernel)
theorem dMH_0 : Dc cq10 0 (.lload_n 0) 1 1 := by decide +kernel
theorem dMH_1 : Dc cq10 1 (.bipush 32) 2 3 := by decide +kernel
theorem dMH_3 : Dc cq10 3 .lshr 1 4 := by decide +kernel
theorem dMH_4 : Dc cq10 4 (.lstore 4) 2 6 := by decide +kernel
theorem dMH_6 : Dc cq10 6 (.lload_n 0) 1 7 := by decide +kernel
theorem dMH_7 : Dc cq10 7 (.ldc2_w 138) 3 10 := by decide +kernel
theorem wd296 {Z a0} (hw : Hw Z a0) : (Cond.constantLong "java/lang/Math" 138 (4294967295 : Int64)).before a0 Z = true := hw _ (mg 296 rfl)
theorem dMH_10 : Dc cq10 10 .land 1 11 := by decide +kernel
theorem dMH_11 : Dc cq10 11 (.lstore 6) 2 13 := by decide +kernel
theorem dMH_13 : Dc cq10 13 (.lload_n 2) 1 14 := by decide +kernel
theorem dMH_14 : Dc cq10 14 (.bipush 32) 2 16 := by decide +kernel
theorem dMH_16 : Dc cq10 16 .lshr 1 17 := by decide +kernel
theorem dMH_17 : Dc cq10 17 (.lstore 8) 2 19 := by decide +kernel
theorem dMH_19 : Dc cq10 19 (.lload_n 2) 1 20 := by decide +kernel
theorem dMH_20 : Dc cq10 20 (.ldc2_w 138) 3 23 := by decide +kernel
theorem dMH_23 : Dc cq10 23 .land 1 24 := by decide +kernel
theorem dMH_24 : Dc cq10 24 (.lstore 10) 2 26 := by decide +kernel
theorem dMH_26 : Dc cq10 26 (.lload 6) 2 28 := by decide +kernel
theorem dMH_28 : Dc cq10 28 (.lload 10) 2 30 := by decide +kernel
theorem dMH_30 : Dc cq10 30 .lmul 1 31 := by decide +kernel
theorem dMH_31 : Dc cq10 31 (.lstore 12) 2 33 := by decide +kernel
theorem dMH_33 : Dc cq10 33 (.lload 4) 2 35 := by decide +kernel
theorem dMH_35 : Dc cq10 35 (.lload 10) 2 37 := by decide +kernel
theorem dMH_37 : Dc cq10 37 .lmul 1 38 := by decide +kernel
theorem dMH_38 : Dc cq10 38 (.lload 12) 2 40 := by decide +kernel
theorem dMH_40 : Dc cq10 40 (.bipush 32) 2 42 := by decide +kernel
theorem dMH_42 : Dc cq10 42 .lushr 1 43 := by decide +kernel
theorem dMH_43 : Dc cq10 43 .ladd 1 44 := by decide +kernel
theorem dMH_44 : Dc cq10 44 (.lstore 14) 2 46 := by decide +kernel
theorem dMH_46 : Dc cq10 46 (.lload 14) 2 48 := by decide +kernel
theorem dMH_48 : Dc cq10 48 (.ldc2_w 138) 3 51 := by decide +kernel
theorem dMH_51 : Dc cq10 51 .land 1 52 := by decide +kernel
theorem dMH_52 : Dc cq10 52 (.lstore 16) 2 54 := by decide +kernel
theorem dMH_54 : Dc cq10 54 (.lload 14) 2 56 := by decide +kernel
theorem dMH_56 : Dc cq10 56 (.bipush 32) 2 58 := by decide +kernel
theorem dMH_58 : Dc cq10 58 .lshr 1 59 := by decide +kernel
theorem dMH_59 : Dc cq10 59 (.lstore 18) 2 61 := by decide +kernel
theorem dMH_61 : Dc cq10 61 (.lload 16) 2 63 := by decide +kernel
theorem dMH_63 : Dc cq10 63 (.lload 6) 2 65 := by decide +kernel
theorem dMH_65 : Dc cq10 65 (.lload 8) 2 67 := by decide +kernel
theorem dMH_67 : Dc cq10 67 .lmul 1 68 := by decide +kernel
theorem dMH_68 : Dc cq10 68 .ladd 1 69 := by decide +kernel
theorem dMH_69 : Dc cq10 69 (.lstore 16) 2 71 := by decide +kernel
theorem dMH_71 : Dc cq10 71 (.lload 4) 2 73 := by decide +kernel
theorem dMH_73 : Dc cq10 73 (.lload 8) 2 75 := by decide +kernel
theorem dMH_75 : Dc cq10 75 .lmul 1 76 := by decide +kernel
theorem dMH_76 : Dc cq10 76 (.lload 18) 2 78 := by decide +kernel
theorem dMH_78 : Dc cq10 78 .ladd 1 79 := by decide +kernel
theorem dMH_79 : Dc cq10 79 (.lload 16) 2 81 := by decide +kernel
theorem dMH_81 : Dc cq10 81 (.bipush 32) 2 83 := by decide +kernel
theorem dMH_83 : Dc cq10 83 .lshr 1 84 := by decide +kernel
theorem dMH_84 : Dc cq10 84 .ladd 1 85 := by decide +kernel
theorem dMH_85 : Dc cq10 85 .lreturn 1 86 := by decide +kernel
theorem efMH (m : MethodId) (x0 : Int64) (x1 : Int64) : entryFrame m #[.long x0, .long x1] 20 = mkF m 0 #[.val (.long x0), .second, .val (.long x1), .second, .unset, .unset, .unset, .unset, .unset, .unset, .unset, .unset, .unset, .unset, .unset, .unset, .unset, .unset, .unset, .unset] [] := by first | (simp [entryFrame, mkF, argsToLocals, Value.category]; done) | rfl
theorem pnMH : plainFor (⟨"java/lang/Math", "multiplyHigh", "(JJ)J"⟩ : MethodName) = true := Jvm.Free.JP.mathPlain rfl (by decide +kernel)
theorem dDD_0 : Dc cq11 0 (.aload_n 0) 1 1 := by decide +kernel
theorem dDD_1 : Dc cq11 1 (.getfield 54) 3 4 := by decide +kernel
theorem wd233 {Z a0} (hw : Hw Z a0) : (Cond.fieldLink "com/example/entry_by_measure/entrybymeasure/service/Divisor" 54 "com/example/entry_by_measure/entrybymeasure/service/Divisor" "multiplier" "J").before a0 Z = true := hw _ (mg 233 rfl)
theorem dDD_4 : Dc cq11 4 (.lload_n 1) 1 5 := by decide +kernel
theorem dDD_5 : Dc cq11 5 (.invokestatic 57) 3 8 := by decide +kernel
theorem wd3 {Z a0} (hw : Hw Z a0) : (Cond.initialized "java/lang/Math").before a0 Z = true := hw _ (mg 3 rfl)
theorem pd_2 : parseMethodDescriptor "(JJ)J" = some ⟨[.long, .long], some .long⟩ := by decide +kernel
theorem wd293 {Z a0} (hw : Hw Z a0) : (Cond.methodLink "com/example/entry_by_measure/entrybymeasure/service/Divisor" 57 ⟨"java/lang/Math", "multiplyHigh", "(JJ)J"⟩).before a0 Z = true := hw _ (mg 293 rfl)
theorem wd294 {Z a0} (hw : Hw Z a0) : (Cond.static ⟨"java/lang/Math", "multiplyHigh", "(JJ)J"⟩).before a0 Z = true := hw _ (mg 294 rfl)
theorem wd295 {Z a0} (hw : Hw Z a0) : (Cond.code ⟨"java/lang/Math", "multiplyHigh", "(JJ)J"⟩ jdk_29_method_45_code 20 (Option.some .long)).before a0 Z = true := hw _ (mg 295 rfl)
theorem dDD_8 : Dc cq11 8 (.aload_n 0) 1 9 := by decide +kernel
theorem dDD_9 : Dc cq11 9 (.getfield 54) 3 12 := by decide +kernel
theorem dDD_12 : Dc cq11 12 (.bipush 63) 2 14 := by decide +kernel
theorem dDD_14 : Dc cq11 14 .lshr 1 15 := by decide +kernel
theorem dDD_15 : Dc cq11 15 (.lload_n 1) 1 16 := by decide +kernel
theorem dDD_16 : Dc cq11 16 .land 1 17 := by decide +kernel
theorem dDD_17 : Dc cq11 17 .ladd 1 18 := by decide +kernel
theorem dDD_18 : Dc cq11 18 (.lstore_n 3) 1 19 := by decide +kernel
theorem dDD_19 : Dc cq11 19 (.aload_n 0) 1 20 := by decide +kernel
theorem dDD_20 : Dc cq11 20 (.getfield 13) 3 23 := by decide +kernel
theorem wd86 {Z a0} (hw : Hw Z a0) : (Cond.fieldLink "com/example/entry_by_measure/entrybymeasure/service/Divisor" 13 "com/example/entry_by_measure/entrybymeasure/service/Divisor" "divisor" "J").before a0 Z = true := hw _ (mg 86 rfl)
theorem dDD_23 : Dc cq11 23 (.lconst 1) 1 24 := by decide +kernel
theorem dDD_24 : Dc cq11 24 .lcmp 1 25 := by decide +kernel
theorem dDD_25 : Db cq11 25 (.ifCond .ne 7) 7 28 32 := by decide +kernel
theorem dDD_28 : Dc cq11 28 (.lload_n 1) 1 29 := by decide +kernel
theorem dDD_29 : Db cq11 29 (.goto 9) 9 32 38 := by decide +kernel
theorem dDD_38 : Dc cq11 38 .lreturn 1 39 := by decide +kernel
theorem dDD_32 : Dc cq11 32 (.lload_n 3) 1 33 := by decide +kernel
theorem dDD_33 : Dc cq11 33 (.aload_n 0) 1 34 := by decide +kernel
theorem dDD_34 : Dc cq11 34 (.getfield 25) 3 37 := by decide +kernel
theorem wd91 {Z a0} (hw : Hw Z a0) : (Cond.fieldLink "com/example/entry_by_measure/entrybymeasure/service/Divisor" 25 "com/example/entry_by_measure/entrybymeasure/service/Divisor" "shift" "I").before a0 Z = true := hw _ (mg 91 rfl)
theorem dDD_37 : Dc cq11 37 .lushr 1 38 := by decide +kernel
theorem efDD (m : MethodId) (x0 : Addr) (x1 : Int64) : entryFrame m #[.ref x0, .long x1] 5 = mkF m 0 #[.val (.ref x0), .val (.long x1), .second, .unset, .unset] [] := by first | (simp [entryFrame, mkF, argsToLocals, Value.category]; done) | rfl
theorem pnDD : plainFor (⟨"com/example/entry_by_measure/entrybymeasure/service/Divisor", "divide", "(J)J"⟩ : MethodName) = true := plainFor_of_name (by first | (simp [plainName, overriddenIn]; done) | decide +kernel)
theorem dDU_0 : Dc cq12 0 (.aload_n 0) 1 1 := by decide +kernel
theorem dDU_1 : Dc cq12 1 (.lload_n 1) 1 2 := by decide +kernel
theorem dDU_2 : Dc cq12 2 (.invokevirtual 61) 3 5 := by decide +kernel
theorem wd72 {Z a0} (hw : Hw Z a0) : (Cond.initialized "com/example/entry_by_measure/entrybymeasure/service/Divisor").before a0 Z = true := hw _ (mg 72 rfl)
theorem pd_3 : parseMethodDescriptor "(J)J" = some ⟨[.long], some .long⟩ := by decide +kernel
theorem wd288 {Z a0} (hw : Hw Z a0) : (Cond.methodLink "com/example/entry_by_measure/entrybymeasure/service/Divisor" 61 ⟨"com/example/entry_by_measure/entrybymeasure/service/Divisor", "divide", "(J)J"⟩).before a0 Z = true := hw _ (mg 288 rfl)
theorem wd289 {Z a0} (hw : Hw Z a0) : (Cond.declares ⟨"com/example/entry_by_measure/entrybymeasure/service/Divisor", "divide", "(J)J"⟩).before a0 Z = true := hw _ (mg 289 rfl)
theorem wd291 {Z a0} (hw : Hw Z a0) : (Cond.selects "com/example/entry_by_measure/entrybymeasure/service/Divisor" ⟨"com/example/entry_by_measure/entrybymeasure/service/Divisor", "divide", "(J)J"⟩ ⟨"com/example/entry_by_measure/entrybymeasure/service/Divisor", "divide", "(J)J"⟩).before a0 Z = true := hw _ (mg 291 rfl)
theorem wd290 {Z a0} (hw : Hw Z a0) : (Cond.instanceMethod ⟨"com/example/entry_by_measure/entrybymeasure/service/Divisor", "divide", "(J)J"⟩).before a0 Z = true := hw _ (mg 290 rfl)
theorem wd292 {Z a0} (hw : Hw Z a0) : (Cond.code ⟨"com/example/entry_by_measure/entrybymeasure/service/Divisor", "divide", "(J)J"⟩ prog_44_method_2_code 5 (Option.some .long)).before a0 Z = true := hw _ (mg 292 rfl)
theorem dDU_5 : Dc cq12 5 (.lstore_n 3) 1 6 := by decide +kernel
theorem dDU_6 : Dc cq12 6 (.lload_n 3) 1 7 := by decide +kernel
theorem dDU_7 : Dc cq12 7 (.aload_n 0) 1 8 := by decide +kernel
theorem dDU_8 : Dc cq12 8 (.getfield 13) 3 11 := by decide +kernel
theorem dDU_11 : Dc cq12 11 .lmul 1 12 := by decide +kernel
theorem dDU_12 : Dc cq12 12 (.lload_n 1) 1 13 := by decide +kernel
theorem dDU_13 : Dc cq12 13 .lcmp 1 14 := by decide +kernel
theorem dDU_14 : Db cq12 14 (.ifCond .ne 7) 7 17 21 := by decide +kernel
theorem dDU_17 : Dc cq12 17 (.lload_n 3) 1 18 := by decide +kernel
theorem dDU_18 : Db cq12 18 (.goto 6) 6 21 24 := by decide +kernel
theorem dDU_24 : Dc cq12 24 .lreturn 1 25 := by decide +kernel
theorem dDU_21 : Dc cq12 21 (.lload_n 3) 1 22 := by decide +kernel
theorem dDU_22 : Dc cq12 22 (.lconst 1) 1 23 := by decide +kernel
theorem dDU_23 : Dc cq12 23 .ladd 1 24 := by decide +kernel
theorem efDU (m : MethodId) (x0 : Addr) (x1 : Int64) : entryFrame m #[.ref x0, .long x1] 5 = mkF m 0 #[.val (.ref x0), .val (.long x1), .second, .unset, .unset] [] := by first | (simp [entryFrame, mkF, argsToLocals, Value.category]; done) | rfl
theorem pnDU : plainFor (⟨"com/example/entry_by_measure/entrybymeasure/service/Divisor", "divideUp", "(J)J"⟩ : MethodName) = true := plainFor_of_name (by first | (simp [plainName, overriddenIn]; done) | decide +kernel)
theorem dDC_0 : Dc cq13 0 (.aload_n 0) 1 1 := by decide +kernel
theorem dDC_1 : Dc cq13 1 (.invokespecial 1) 3 4 := by decide +kernel
theorem wd308 {Z a0} (hw : Hw Z a0) : (Cond.methodLink "com/example/entry_by_measure/entrybymeasure/model/Decision" 1 ⟨"java/lang/Object", "<init>", "()V"⟩).before a0 Z = true := hw _ (mg 308 rfl)
theorem dDC_4 : Dc cq13 4 (.aload_n 0) 1 5 := by decide +kernel
theorem dDC_5 : Dc cq13 5 (.iload_n 1) 1 6 := by decide +kernel
theorem dDC_6 : Dc cq13 6 (.putfield 7) 3 9 := by decide +kernel
theorem wd310 {Z a0} (hw : Hw Z a0) : (Cond.laysFinal "com/example/entry_by_measure/entrybymeasure/model/Decision" "com/example/entry_by_measure/entrybymeasure/model/Decision" "allowed" "Z").before a0 Z = true := hw _ (mg 310 rfl)
theorem wd309 {Z a0} (hw : Hw Z a0) : (Cond.fieldLink "com/example/entry_by_measure/entrybymeasure/model/Decision" 7 "com/example/entry_by_measure/entrybymeasure/model/Decision" "allowed" "Z").before a0 Z = true := hw _ (mg 309 rfl)
theorem wd304 {Z a0} (hw : Hw Z a0) : (Cond.instantiable "com/example/entry_by_measure/entrybymeasure/model/Decision" 5).before a0 Z = true := hw _ (mg 304 rfl)
theorem wd312 {Z a0} (hw : Hw Z a0) : (Cond.laysFinal "com/example/entry_by_measure/entrybymeasure/model/Decision" "com/example/entry_by_measure/entrybymeasure/model/Decision" "remaining" "J").before a0 Z = true := hw _ (mg 312 rfl)
theorem wd314 {Z a0} (hw : Hw Z a0) : (Cond.laysFinal "com/example/entry_by_measure/entrybymeasure/model/Decision" "com/example/entry_by_measure/entrybymeasure/model/Decision" "waitMillis" "J").before a0 Z = true := hw _ (mg 314 rfl)
theorem wd316 {Z a0} (hw : Hw Z a0) : (Cond.laysFinal "com/example/entry_by_measure/entrybymeasure/model/Decision" "com/example/entry_by_measure/entrybymeasure/model/Decision" "resetMillis" "J").before a0 Z = true := hw _ (mg 316 rfl)
theorem wd318 {Z a0} (hw : Hw Z a0) : (Cond.laysFinal "com/example/entry_by_measure/entrybymeasure/model/Decision" "com/example/entry_by_measure/entrybymeasure/model/Decision" "failure" "Lcom/example/entry_by_measure/entrybymeasure/model/StoreFailure;").before a0 Z = true := hw _ (mg 318 rfl)
theorem dDC_9 : Dc cq13 9 (.aload_n 0) 1 10 := by decide +kernel
theorem dDC_10 : Dc cq13 10 (.lload_n 2) 1 11 := by decide +kernel
theorem dDC_11 : Dc cq13 11 (.putfield 13) 3 14 := by decide +kernel
theorem wd311 {Z a0} (hw : Hw Z a0) : (Cond.fieldLink "com/example/entry_by_measure/entrybymeasure/model/Decision" 13 "com/example/entry_by_measure/entrybymeasure/model/Decision" "remaining" "J").before a0 Z = true := hw _ (mg 311 rfl)
theorem dDC_14 : Dc cq13 14 (.aload_n 0) 1 15 := by decide +kernel
theorem dDC_15 : Dc cq13 15 (.lload 4) 2 17 := by decide +kernel
theorem dDC_17 : Dc cq13 17 (.putfield 17) 3 20 := by decide +kernel
theorem wd313 {Z a0} (hw : Hw Z a0) : (Cond.fieldLink "com/example/entry_by_measure/entrybymeasure/model/Decision" 17 "com/example/entry_by_measure/entrybymeasure/model/Decision" "waitMillis" "J").before a0 Z = true := hw _ (mg 313 rfl)
theorem dDC_20 : Dc cq13 20 (.aload_n 0) 1 21 := by decide +kernel
theorem dDC_21 : Dc cq13 21 (.lload 6) 2 23 := by decide +kernel
theorem dDC_23 : Dc cq13 23 (.putfield 20) 3 26 := by decide +kernel
theorem wd315 {Z a0} (hw : Hw Z a0) : (Cond.fieldLink "com/example/entry_by_measure/entrybymeasure/model/Decision" 20 "com/example/entry_by_measure/entrybymeasure/model/Decision" "resetMillis" "J").before a0 Z = true := hw _ (mg 315 rfl)
theorem dDC_26 : Dc cq13 26 (.aload_n 0) 1 27 := by decide +kernel
theorem dDC_27 : Dc cq13 27 .aconst_null 1 28 := by decide +kernel
theorem dDC_28 : Dc cq13 28 (.putfield 23) 3 31 := by decide +kernel
theorem wd317 {Z a0} (hw : Hw Z a0) : (Cond.fieldLink "com/example/entry_by_measure/entrybymeasure/model/Decision" 23 "com/example/entry_by_measure/entrybymeasure/model/Decision" "failure" "Lcom/example/entry_by_measure/entrybymeasure/model/StoreFailure;").before a0 Z = true := hw _ (mg 317 rfl)
theorem dDC_31 : Dc cq13 31 .return_ 1 32 := by decide +kernel
theorem efDC (m : MethodId) (x0 : Addr) (x1 : Int32) (x2 : Int64) (x3 : Int64) (x4 : Int64) : entryFrame m #[.ref x0, .int x1, .long x2, .long x3, .long x4] 8 = mkF m 0 #[.val (.ref x0), .val (.int x1), .val (.long x2), .second, .val (.long x3), .second, .val (.long x4), .second] [] := by first | (simp [entryFrame, mkF, argsToLocals, Value.category]; done) | rfl
theorem pnDC : plainFor (⟨"com/example/entry_by_measure/entrybymeasure/model/Decision", "<init>", "(ZJJJ)V"⟩ : MethodName) = true := plainFor_of_name (by first | (simp [plainName, overriddenIn]; done) | decide +kernel)
theorem dDA_0 : Dc cq14 0 (.new 8) 3 3 := by decide +kernel
theorem wd303 {Z a0} (hw : Hw Z a0) : (Cond.classLink "com/example/entry_by_measure/entrybymeasure/model/Decision" 8 "com/example/entry_by_measure/entrybymeasure/model/Decision").before a0 Z = true := hw _ (mg 303 rfl)
theorem wd301 {Z a0} (hw : Hw Z a0) : (Cond.initialized "com/example/entry_by_measure/entrybymeasure/model/Decision").before a0 Z = true := hw _ (mg 301 rfl)
theorem dDA_3 : Dc cq14 3 .dup 1 4 := by decide +kernel
theorem dDA_4 : Dc cq14 4 (.iconst 1) 1 5 := by decide +kernel
theorem dDA_5 : Dc cq14 5 (.lload_n 0) 1 6 := by decide +kernel
theorem dDA_6 : Dc cq14 6 (.lconst 0) 1 7 := by decide +kernel
theorem dDA_7 : Dc cq14 7 (.lload_n 2) 1 8 := by decide +kernel
theorem dDA_8 : Dc cq14 8 (.invokespecial 27) 3 11 := by decide +kernel
theorem pd_4 : parseMethodDescriptor "(ZJJJ)V" = some ⟨[.boolean, .long, .long, .long], none⟩ := by decide +kernel
theorem wd305 {Z a0} (hw : Hw Z a0) : (Cond.methodLink "com/example/entry_by_measure/entrybymeasure/model/Decision" 27 ⟨"com/example/entry_by_measure/entrybymeasure/model/Decision", "<init>", "(ZJJJ)V"⟩).before a0 Z = true := hw _ (mg 305 rfl)
theorem wd306 {Z a0} (hw : Hw Z a0) : (Cond.instanceMethod ⟨"com/example/entry_by_measure/entrybymeasure/model/Decision", "<init>", "(ZJJJ)V"⟩).before a0 Z = true := hw _ (mg 306 rfl)
theorem wd307 {Z a0} (hw : Hw Z a0) : (Cond.code ⟨"com/example/entry_by_measure/entrybymeasure/model/Decision", "<init>", "(ZJJJ)V"⟩ prog_16_method_1_code 8 (Option.none : Option Jvm.ClassFile.FieldType)).before a0 Z = true := hw _ (mg 307 rfl)
theorem dDA_11 : Dc cq14 11 .areturn 1 12 := by decide +kernel
theorem efDA (m : MethodId) (x0 : Int64) (x1 : Int64) : entryFrame m #[.long x0, .long x1] 4 = mkF m 0 #[.val (.long x0), .second, .val (.long x1), .second] [] := by first | (simp [entryFrame, mkF, argsToLocals, Value.category]; done) | rfl
theorem pnDA : plainFor (⟨"com/example/entry_by_measure/entrybymeasure/model/Decision", "allowed", "(JJ)Lcom/example/entry_by_measure/entrybymeasure/model/Decision;"⟩ : MethodName) = true := plainFor_of_name (by first | (simp [plainName, overriddenIn]; done) | decide +kernel)
theorem dHO_0 : Dc cq15 0 (.lload_n 1) 1 1 := by decide +kernel
theorem dHO_1 : Dc cq15 1 (.aload_n 0) 1 2 := by decide +kernel
theorem dHO_2 : Dc cq15 2 (.getfield 33) 3 5 := by decide +kernel
theorem wd68 {Z a0} (hw : Hw Z a0) : (Cond.fieldLink "com/example/entry_by_measure/entrybymeasure/service/TokenBucket$Shape" 33 "com/example/entry_by_measure/entrybymeasure/service/TokenBucket$Shape" "fullParts" "J").before a0 Z = true := hw _ (mg 68 rfl)
theorem dHO_5 : Dc cq15 5 (.ldc2_w 81) 3 8 := by decide +kernel
theorem wd326 {Z a0} (hw : Hw Z a0) : (Cond.constantLong "com/example/entry_by_measure/entrybymeasure/service/TokenBucket$Shape" 81 (9223372036854775807 : Int64)).before a0 Z = true := hw _ (mg 326 rfl)
theorem dHO_8 : Dc cq15 8 .lsub 1 9 := by decide +kernel
theorem dHO_9 : Dc cq15 9 .lcmp 1 10 := by decide +kernel
theorem dHO_10 : Db cq15 10 (.ifCond .lt 7) 7 13 17 := by decide +kernel
theorem dHO_17 : Dc cq15 17 (.iconst 0) 1 18 := by decide +kernel
theorem dHO_18 : Dc cq15 18 .ireturn 1 19 := by decide +kernel
theorem dHO_13 : Dc cq15 13 (.iconst 1) 1 14 := by decide +kernel
theorem dHO_14 : Db cq15 14 (.goto 4) 4 17 18 := by decide +kernel
theorem efHO (m : MethodId) (x0 : Addr) (x1 : Int64) : entryFrame m #[.ref x0, .long x1] 3 = mkF m 0 #[.val (.ref x0), .val (.long x1), .second] [] := by first | (simp [entryFrame, mkF, argsToLocals, Value.category]; done) | rfl
theorem pnHO : plainFor (⟨"com/example/entry_by_measure/entrybymeasure/service/TokenBucket$Shape", "holds", "(J)Z"⟩ : MethodName) = true := plainFor_of_name (by first | (simp [plainName, overriddenIn]; done) | decide +kernel)
theorem dNU_0 : Dc cq16 0 (.aload_n 0) 1 1 := by decide +kernel
theorem dNU_1 : Dc cq16 1 (.invokespecial 1) 3 4 := by decide +kernel
theorem wd124 {Z a0} (hw : Hw Z a0) : (Cond.methodLink "java/lang/Number" 1 ⟨"java/lang/Object", "<init>", "()V"⟩).before a0 Z = true := hw _ (mg 124 rfl)
theorem dNU_4 : Dc cq16 4 .return_ 1 5 := by decide +kernel
theorem efNU (m : MethodId) (x0 : Addr) : entryFrame m #[.ref x0] 1 = mkF m 0 #[.val (.ref x0)] [] := by first | (simp [entryFrame, mkF, argsToLocals, Value.category]; done) | rfl
theorem pnNU : plainFor (⟨"java/lang/Number", "<init>", "()V"⟩ : MethodName) = true := plainFor_of_name (by first | (simp [plainName, overriddenIn]; done) | decide +kernel)
theorem dBM_0 : Dc cq17 0 (.aload_n 0) 1 1 := by decide +kernel
theorem dBM_1 : Dc cq17 1 (.invokespecial 3) 3 4 := by decide +kernel
theorem wd122 {Z a0} (hw : Hw Z a0) : (Cond.initialized "java/lang/Number").before a0 Z = true := hw _ (mg 122 rfl)
theorem pd_5 : parseMethodDescriptor "()V" = some ⟨[], none⟩ := by decide +kernel
theorem wd118 {Z a0} (hw : Hw Z a0) : (Cond.methodLink "java/math/BigInteger" 3 ⟨"java/lang/Number", "<init>", "()V"⟩).before a0 Z = true := hw _ (mg 118 rfl)
theorem wd119 {Z a0} (hw : Hw Z a0) : (Cond.instanceMethod ⟨"java/lang/Number", "<init>", "()V"⟩).before a0 Z = true := hw _ (mg 119 rfl)
theorem wd123 {Z a0} (hw : Hw Z a0) : (Cond.code ⟨"java/lang/Number", "<init>", "()V"⟩ jdk_18_method_1_code 1 (Option.none : Option Jvm.ClassFile.FieldType)).before a0 Z = true := hw _ (mg 123 rfl)
theorem dBM_4 : Dc cq17 4 (.aload_n 0) 1 5 := by decide +kernel
theorem dBM_5 : Dc cq17 5 (.aload_n 1) 1 6 := by decide +kernel
theorem dBM_6 : Dc cq17 6 .arraylength 1 7 := by decide +kernel
theorem dBM_7 : Db cq17 7 (.ifCond .ne 7) 7 10 14 := by decide +kernel
theorem dBM_14 : Dc cq17 14 (.iload_n 2) 1 15 := by decide +kernel
theorem dBM_15 : Dc cq17 15 (.putfield 32) 3 18 := by decide +kernel
theorem wd101 {Z a0} (hw : Hw Z a0) : (Cond.laysFinal "java/math/BigInteger" "java/math/BigInteger" "signum" "I").before a0 Z = true := hw _ (mg 101 rfl)
theorem wd100 {Z a0} (hw : Hw Z a0) : (Cond.fieldLink "java/math/BigInteger" 32 "java/math/BigInteger" "signum" "I").before a0 Z = true := hw _ (mg 100 rfl)
theorem wd103 {Z a0} (hw : Hw Z a0) : (Cond.instantiable "java/math/BigInteger" 6).before a0 Z = true := hw _ (mg 103 rfl)
theorem wd105 {Z a0} (hw : Hw Z a0) : (Cond.laysFinal "java/math/BigInteger" "java/math/BigInteger" "mag" "[I").before a0 Z = true := hw _ (mg 105 rfl)
theorem dBM_18 : Dc cq17 18 (.aload_n 0) 1 19 := by decide +kernel
theorem dBM_19 : Dc cq17 19 (.aload_n 1) 1 20 := by decide +kernel
theorem dBM_20 : Dc cq17 20 (.putfield 28) 3 23 := by decide +kernel
theorem wd104 {Z a0} (hw : Hw Z a0) : (Cond.fieldLink "java/math/BigInteger" 28 "java/math/BigInteger" "mag" "[I").before a0 Z = true := hw _ (mg 104 rfl)
theorem dBM_23 : Dc cq17 23 (.aload_n 0) 1 24 := by decide +kernel
theorem dBM_24 : Dc cq17 24 (.getfield 28) 3 27 := by decide +kernel
theorem dBM_27 : Dc cq17 27 .arraylength 1 28 := by decide +kernel
theorem dBM_28 : Dc cq17 28 (.ldc 43) 2 30 := by decide +kernel
theorem wd125 {Z a0} (hw : Hw Z a0) : (Cond.constant "java/math/BigInteger" 43 (67108864 : Int32)).before a0 Z = true := hw _ (mg 125 rfl)
theorem dBM_30 : Db cq17 30 (.if_icmp .lt 7) 7 33 37 := by decide +kernel
theorem dBM_37 : Dc cq17 37 .return_ 1 38 := by decide +kernel
theorem efBM (m : MethodId) (x0 : Addr) (x1 : Addr) (x2 : Int32) : entryFrame m #[.ref x0, .ref x1, .int x2] 3 = mkF m 0 #[.val (.ref x0), .val (.ref x1), .val (.int x2)] [] := by first | (simp [entryFrame, mkF, argsToLocals, Value.category]; done) | rfl
theorem pnBM : plainFor (⟨"java/math/BigInteger", "<init>", "([II)V"⟩ : MethodName) = true := plainFor_of_name (by first | (simp [plainName, overriddenIn]; done) | decide +kernel)
theorem dMS_0 : Dc cq18 0 (.iload_n 3) 1 1 := by decide +kernel
theorem dMS_1 : Dc cq18 1 .i2l 1 2 := by decide +kernel
theorem dMS_2 : Dc cq18 2 (.ldc2_w 52) 3 5 := by decide +kernel
theorem dMS_5 : Dc cq18 5 .land 1 6 := by decide +kernel
theorem dMS_6 : Dc cq18 6 (.lstore 6) 2 8 := by decide +kernel
theorem dMS_8 : Dc cq18 8 (.lconst 0) 1 9 := by decide +kernel
theorem dMS_9 : Dc cq18 9 (.lstore 8) 2 11 := by decide +kernel
theorem dMS_11 : Dc cq18 11 (.iload 5) 2 13 := by decide +kernel
theorem dMS_13 : Dc cq18 13 (.iload 4) 2 15 := by decide +kernel
theorem dMS_15 : Dc cq18 15 .iadd 1 16 := by decide +kernel
theorem dMS_16 : Dc cq18 16 (.istore 5) 2 18 := by decide +kernel
theorem dMS_18 : Dc cq18 18 (.iload 4) 2 20 := by decide +kernel
theorem dMS_20 : Dc cq18 20 (.iconst 1) 1 21 := by decide +kernel
theorem dMS_21 : Dc cq18 21 .isub 1 22 := by decide +kernel
theorem dMS_22 : Dc cq18 22 (.istore 10) 2 24 := by decide +kernel
theorem dMS_24 : Dc cq18 24 (.iload 10) 2 26 := by decide +kernel
theorem dMS_26 : Db cq18 26 (.ifCond .lt 80) 80 29 106 := by decide +kernel
theorem dMS_29 : Dc cq18 29 (.aload_n 2) 1 30 := by decide +kernel
theorem dMS_30 : Dc cq18 30 (.iload 10) 2 32 := by decide +kernel
theorem dMS_32 : Dc cq18 32 .iaload 1 33 := by decide +kernel
theorem dMS_33 : Dc cq18 33 .i2l 1 34 := by decide +kernel
theorem dMS_34 : Dc cq18 34 (.ldc2_w 52) 3 37 := by decide +kernel
theorem dMS_37 : Dc cq18 37 .land 1 38 := by decide +kernel
theorem dMS_38 : Dc cq18 38 (.lload 6) 2 40 := by decide +kernel
theorem dMS_40 : Dc cq18 40 .lmul 1 41 := by decide +kernel
theorem dMS_41 : Dc cq18 41 (.lload 8) 2 43 := by decide +kernel
theorem dMS_43 : Dc cq18 43 .ladd 1 44 := by decide +kernel
theorem dMS_44 : Dc cq18 44 (.lstore 11) 2 46 := by decide +kernel
theorem dMS_46 : Dc cq18 46 (.aload_n 1) 1 47 := by decide +kernel
theorem dMS_47 : Dc cq18 47 (.iload 5) 2 49 := by decide +kernel
theorem dMS_49 : Dc cq18 49 .iaload 1 50 := by decide +kernel
theorem dMS_50 : Dc cq18 50 .i2l 1 51 := by decide +kernel
theorem dMS_51 : Dc cq18 51 (.lload 11) 2 53 := by decide +kernel
theorem dMS_53 : Dc cq18 53 .lsub 1 54 := by decide +kernel
theorem dMS_54 : Dc cq18 54 (.lstore 13) 2 56 := by decide +kernel
theorem dMS_56 : Dc cq18 56 (.aload_n 1) 1 57 := by decide +kernel
theorem dMS_57 : Dc cq18 57 (.iload 5) 2 59 := by decide +kernel
theorem dMS_59 : Dc cq18 59 (.iinc 5 (-1)) 3 62 := by decide +kernel
theorem dMS_62 : Dc cq18 62 (.lload 13) 2 64 := by decide +kernel
theorem dMS_64 : Dc cq18 64 .l2i 1 65 := by decide +kernel
theorem dMS_65 : Dc cq18 65 .iastore 1 66 := by decide +kernel
theorem dMS_66 : Dc cq18 66 (.lload 11) 2 68 := by decide +kernel
theorem dMS_68 : Dc cq18 68 (.bipush 32) 2 70 := by decide +kernel
theorem dMS_70 : Dc cq18 70 .lushr 1 71 := by decide +kernel
theorem dMS_71 : Dc cq18 71 (.lload 13) 2 73 := by decide +kernel
theorem dMS_73 : Dc cq18 73 (.ldc2_w 52) 3 76 := by decide +kernel
theorem dMS_76 : Dc cq18 76 .land 1 77 := by decide +kernel
theorem dMS_77 : Dc cq18 77 (.lload 11) 2 79 := by decide +kernel
theorem dMS_79 : Dc cq18 79 .l2i 1 80 := by decide +kernel
theorem dMS_80 : Dc cq18 80 (.iconst (-1)) 1 81 := by decide +kernel
theorem dMS_81 : Dc cq18 81 .ixor 1 82 := by decide +kernel
theorem dMS_82 : Dc cq18 82 .i2l 1 83 := by decide +kernel
theorem dMS_83 : Dc cq18 83 (.ldc2_w 52) 3 86 := by decide +kernel
theorem dMS_86 : Dc cq18 86 .land 1 87 := by decide +kernel
theorem dMS_87 : Dc cq18 87 .lcmp 1 88 := by decide +kernel
theorem dMS_88 : Db cq18 88 (.ifCond .le 7) 7 91 95 := by decide +kernel
theorem dMS_91 : Dc cq18 91 (.iconst 1) 1 92 := by decide +kernel
theorem dMS_92 : Db cq18 92 (.goto 4) 4 95 96 := by decide +kernel
theorem dMS_95 : Dc cq18 95 (.iconst 0) 1 96 := by decide +kernel
theorem dMS_96 : Dc cq18 96 .i2l 1 97 := by decide +kernel
theorem dMS_97 : Dc cq18 97 .ladd 1 98 := by decide +kernel
theorem dMS_98 : Dc cq18 98 (.lstore 8) 2 100 := by decide +kernel
theorem dMS_100 : Dc cq18 100 (.iinc 10 (-1)) 3 103 := by decide +kernel
theorem dMS_103 : Db cq18 103 (.goto (-79)) (-79) 106 24 := by decide +kernel
theorem dMS_106 : Dc cq18 106 (.lload 8) 2 108 := by decide +kernel
theorem dMS_108 : Dc cq18 108 .l2i 1 109 := by decide +kernel
theorem dMS_109 : Dc cq18 109 .ireturn 1 110 := by decide +kernel
theorem efMS (m : MethodId) (x0 : Addr) (x1 : Addr) (x2 : Addr) (x3 : Int32) (x4 : Int32) (x5 : Int32) : entryFrame m #[.ref x0, .ref x1, .ref x2, .int x3, .int x4, .int x5] 15 = mkF m 0 #[.val (.ref x0), .val (.ref x1), .val (.ref x2), .val (.int x3), .val (.int x4), .val (.int x5), .unset, .unset, .unset, .unset, .unset, .unset, .unset, .unset, .unset] [] := by first | (simp [entryFrame, mkF, argsToLocals, Value.category]; done) | rfl
theorem pnMS : plainFor (⟨"java/math/MutableBigInteger", "mulsub", "([I[IIII)I"⟩ : MethodName) = true := plainFor_of_name (by first | (simp [plainName, overriddenIn]; done) | decide +kernel)
theorem dUC_0 : Dc cq19 0 (.lload_n 1) 1 1 := by decide +kernel
theorem dUC_1 : Dc cq19 1 (.ldc2_w 79) 3 4 := by decide +kernel
theorem wd270 {Z a0} (hw : Hw Z a0) : (Cond.constantLong "java/math/MutableBigInteger" 79 (-9223372036854775808 : Int64)).before a0 Z = true := hw _ (mg 270 rfl)
theorem dUC_4 : Dc cq19 4 .ladd 1 5 := by decide +kernel
theorem dUC_5 : Dc cq19 5 (.lload_n 3) 1 6 := by decide +kernel
theorem dUC_6 : Dc cq19 6 (.ldc2_w 79) 3 9 := by decide +kernel
theorem dUC_9 : Dc cq19 9 .ladd 1 10 := by decide +kernel
theorem dUC_10 : Dc cq19 10 .lcmp 1 11 := by decide +kernel
theorem dUC_11 : Db cq19 11 (.ifCond .le 7) 7 14 18 := by decide +kernel
theorem dUC_14 : Dc cq19 14 (.iconst 1) 1 15 := by decide +kernel
theorem dUC_15 : Db cq19 15 (.goto 4) 4 18 19 := by decide +kernel
theorem dUC_19 : Dc cq19 19 .ireturn 1 20 := by decide +kernel
theorem dUC_18 : Dc cq19 18 (.iconst 0) 1 19 := by decide +kernel
theorem efUC (m : MethodId) (x0 : Addr) (x1 : Int64) (x2 : Int64) : entryFrame m #[.ref x0, .long x1, .long x2] 5 = mkF m 0 #[.val (.ref x0), .val (.long x1), .second, .val (.long x2), .second] [] := by first | (simp [entryFrame, mkF, argsToLocals, Value.category]; done) | rfl
theorem pnUC : plainFor (⟨"java/math/MutableBigInteger", "unsignedLongCompare", "(JJ)Z"⟩ : MethodName) = true := plainFor_of_name (by first | (simp [plainName, overriddenIn]; done) | decide +kernel)
theorem dM1_0 : Dc cq20 0 (.aload_n 0) 1 1 := by decide +kernel
theorem dM1_1 : Dc cq20 1 (.invokespecial 5) 3 4 := by decide +kernel
theorem wd157 {Z a0} (hw : Hw Z a0) : (Cond.methodLink "java/math/MutableBigInteger" 5 ⟨"java/lang/Object", "<init>", "()V"⟩).before a0 Z = true := hw _ (mg 157 rfl)
theorem dM1_4 : Dc cq20 4 (.aload_n 0) 1 5 := by decide +kernel
theorem dM1_5 : Dc cq20 5 (.iconst 0) 1 6 := by decide +kernel
theorem dM1_6 : Dc cq20 6 (.putfield 11) 3 9 := by decide +kernel
theorem wd159 {Z a0} (hw : Hw Z a0) : (Cond.lays "java/math/MutableBigInteger" "java/math/MutableBigInteger" "offset" "I").before a0 Z = true := hw _ (mg 159 rfl)
theorem wd158 {Z a0} (hw : Hw Z a0) : (Cond.fieldLink "java/math/MutableBigInteger" 11 "java/math/MutableBigInteger" "offset" "I").before a0 Z = true := hw _ (mg 158 rfl)
theorem wd151 {Z a0} (hw : Hw Z a0) : (Cond.instantiable "java/math/MutableBigInteger" 3).before a0 Z = true := hw _ (mg 151 rfl)
theorem wd161 {Z a0} (hw : Hw Z a0) : (Cond.lays "java/math/MutableBigInteger" "java/math/MutableBigInteger" "value" "[I").before a0 Z = true := hw _ (mg 161 rfl)
theorem wd163 {Z a0} (hw : Hw Z a0) : (Cond.lays "java/math/MutableBigInteger" "java/math/MutableBigInteger" "intLen" "I").before a0 Z = true := hw _ (mg 163 rfl)
theorem dM1_9 : Dc cq20 9 (.aload_n 0) 1 10 := by decide +kernel
theorem dM1_10 : Dc cq20 10 (.aload_n 1) 1 11 := by decide +kernel
theorem dM1_11 : Dc cq20 11 (.putfield 17) 3 14 := by decide +kernel
theorem wd160 {Z a0} (hw : Hw Z a0) : (Cond.fieldLink "java/math/MutableBigInteger" 17 "java/math/MutableBigInteger" "value" "[I").before a0 Z = true := hw _ (mg 160 rfl)
theorem dM1_14 : Dc cq20 14 (.aload_n 0) 1 15 := by decide +kernel
theorem dM1_15 : Dc cq20 15 (.aload_n 1) 1 16 := by decide +kernel
theorem dM1_16 : Dc cq20 16 .arraylength 1 17 := by decide +kernel
theorem dM1_17 : Dc cq20 17 (.putfield 21) 3 20 := by decide +kernel
theorem wd162 {Z a0} (hw : Hw Z a0) : (Cond.fieldLink "java/math/MutableBigInteger" 21 "java/math/MutableBigInteger" "intLen" "I").before a0 Z = true := hw _ (mg 162 rfl)
theorem dM1_20 : Dc cq20 20 .return_ 1 21 := by decide +kernel
theorem efM1 (m : MethodId) (x0 : Addr) (x1 : Addr) : entryFrame m #[.ref x0, .ref x1] 2 = mkF m 0 #[.val (.ref x0), .val (.ref x1)] [] := by first | (simp [entryFrame, mkF, argsToLocals, Value.category]; done) | rfl
theorem pnM1 : plainFor (⟨"java/math/MutableBigInteger", "<init>", "([I)V"⟩ : MethodName) = true := plainFor_of_name (by first | (simp [plainName, overriddenIn]; done) | decide +kernel)
theorem dM0_0 : Dc cq21 0 (.aload_n 0) 1 1 := by decide +kernel
theorem dM0_1 : Dc cq21 1 (.invokespecial 5) 3 4 := by decide +kernel
theorem dM0_4 : Dc cq21 4 (.aload_n 0) 1 5 := by decide +kernel
theorem dM0_5 : Dc cq21 5 (.iconst 0) 1 6 := by decide +kernel
theorem dM0_6 : Dc cq21 6 (.putfield 11) 3 9 := by decide +kernel
theorem dM0_9 : Dc cq21 9 (.aload_n 0) 1 10 := by decide +kernel
theorem dM0_10 : Dc cq21 10 (.iconst 1) 1 11 := by decide +kernel
theorem dM0_11 : Dc cq21 11 (.newarray .int) 2 13 := by decide +kernel
theorem wd109 {Z a0} (hw : Hw Z a0) : (Cond.arrayClass .int).before a0 Z = true := hw _ (mg 109 rfl)
theorem dM0_13 : Dc cq21 13 (.putfield 17) 3 16 := by decide +kernel
theorem dM0_16 : Dc cq21 16 (.aload_n 0) 1 17 := by decide +kernel
theorem dM0_17 : Dc cq21 17 (.iconst 0) 1 18 := by decide +kernel
theorem dM0_18 : Dc cq21 18 (.putfield 21) 3 21 := by decide +kernel
theorem dM0_21 : Dc cq21 21 .return_ 1 22 := by decide +kernel
theorem efM0 (m : MethodId) (x0 : Addr) : entryFrame m #[.ref x0] 1 = mkF m 0 #[.val (.ref x0)] [] := by first | (simp [entryFrame, mkF, argsToLocals, Value.category]; done) | rfl
theorem pnM0 : plainFor (⟨"java/math/MutableBigInteger", "<init>", "()V"⟩ : MethodName) = true := plainFor_of_name (by first | (simp [plainName, overriddenIn]; done) | decide +kernel)
theorem dCP_0 : Dc cq22 0 (.aload_n 1) 1 1 := by decide +kernel
theorem dCP_1 : Dc cq22 1 (.getfield 21) 3 4 := by decide +kernel
theorem dCP_4 : Dc cq22 4 (.istore_n 2) 1 5 := by decide +kernel
theorem dCP_5 : Dc cq22 5 (.aload_n 0) 1 6 := by decide +kernel
theorem dCP_6 : Dc cq22 6 (.getfield 21) 3 9 := by decide +kernel
theorem dCP_9 : Dc cq22 9 (.iload_n 2) 1 10 := by decide +kernel
theorem dCP_10 : Db cq22 10 (.if_icmp .ge 5) 5 13 15 := by decide +kernel
theorem dCP_15 : Dc cq22 15 (.aload_n 0) 1 16 := by decide +kernel
theorem dCP_16 : Dc cq22 16 (.getfield 21) 3 19 := by decide +kernel
theorem dCP_19 : Dc cq22 19 (.iload_n 2) 1 20 := by decide +kernel
theorem dCP_20 : Db cq22 20 (.if_icmp .le 5) 5 23 25 := by decide +kernel
theorem dCP_23 : Dc cq22 23 (.iconst 1) 1 24 := by decide +kernel
theorem dCP_24 : Dc cq22 24 .ireturn 1 25 := by decide +kernel
theorem efCP (m : MethodId) (x0 : Addr) (x1 : Addr) : entryFrame m #[.ref x0, .ref x1] 8 = mkF m 0 #[.val (.ref x0), .val (.ref x1), .unset, .unset, .unset, .unset, .unset, .unset] [] := by first | (simp [entryFrame, mkF, argsToLocals, Value.category]; done) | rfl
theorem pnCP : plainFor (⟨"java/math/MutableBigInteger", "compare", "(Ljava/math/MutableBigInteger;)I"⟩ : MethodName) = true := plainFor_of_name (by first | (simp [plainName, overriddenIn]; done) | decide +kernel)
theorem dCL_0 : Dc cq23 0 (.aload_n 0) 1 1 := by decide +kernel
theorem dCL_1 : Dc cq23 1 (.aload_n 0) 1 2 := by decide +kernel
theorem dCL_2 : Dc cq23 2 (.iconst 0) 1 3 := by decide +kernel
theorem dCL_3 : Dc cq23 3 .dup_x1 1 4 := by decide +kernel
theorem dCL_4 : Dc cq23 4 (.putfield 21) 3 7 := by decide +kernel
theorem dCL_7 : Dc cq23 7 (.putfield 11) 3 10 := by decide +kernel
theorem dCL_10 : Dc cq23 10 (.iconst 0) 1 11 := by decide +kernel
theorem dCL_11 : Dc cq23 11 (.istore_n 1) 1 12 := by decide +kernel
theorem dCL_12 : Dc cq23 12 (.aload_n 0) 1 13 := by decide +kernel
theorem dCL_13 : Dc cq23 13 (.getfield 17) 3 16 := by decide +kernel
theorem dCL_16 : Dc cq23 16 .arraylength 1 17 := by decide +kernel
theorem dCL_17 : Dc cq23 17 (.istore_n 2) 1 18 := by decide +kernel
theorem dCL_18 : Dc cq23 18 (.iload_n 1) 1 19 := by decide +kernel
theorem dCL_19 : Dc cq23 19 (.iload_n 2) 1 20 := by decide +kernel
theorem dCL_20 : Db cq23 20 (.if_icmp .ge 16) 16 23 36 := by decide +kernel
theorem dCL_23 : Dc cq23 23 (.aload_n 0) 1 24 := by decide +kernel
theorem dCL_24 : Dc cq23 24 (.getfield 17) 3 27 := by decide +kernel
theorem dCL_27 : Dc cq23 27 (.iload_n 1) 1 28 := by decide +kernel
theorem dCL_28 : Dc cq23 28 (.iconst 0) 1 29 := by decide +kernel
theorem dCL_29 : Dc cq23 29 .iastore 1 30 := by decide +kernel
theorem dCL_30 : Dc cq23 30 (.iinc 1 1) 3 33 := by decide +kernel
theorem dCL_33 : Db cq23 33 (.goto (-15)) (-15) 36 18 := by decide +kernel
theorem dCL_36 : Dc cq23 36 .return_ 1 37 := by decide +kernel
theorem efCL (m : MethodId) (x0 : Addr) : entryFrame m #[.ref x0] 3 = mkF m 0 #[.val (.ref x0), .unset, .unset] [] := by first | (simp [entryFrame, mkF, argsToLocals, Value.category]; done) | rfl
theorem pnCL : plainFor (⟨"java/math/MutableBigInteger", "clear", "()V"⟩ : MethodName) = true := plainFor_of_name (by first | (simp [plainName, overriddenIn]; done) | decide +kernel)
theorem dNM_0 : Dc cq24 0 (.aload_n 0) 1 1 := by decide +kernel
theorem dNM_1 : Dc cq24 1 (.getfield 21) 3 4 := by decide +kernel
theorem dNM_4 : Db cq24 4 (.ifCond .ne 9) 9 7 13 := by decide +kernel
theorem dNM_13 : Dc cq24 13 (.aload_n 0) 1 14 := by decide +kernel
theorem dNM_14 : Dc cq24 14 (.getfield 11) 3 17 := by decide +kernel
theorem dNM_17 : Dc cq24 17 (.istore_n 1) 1 18 := by decide +kernel
theorem dNM_18 : Dc cq24 18 (.aload_n 0) 1 19 := by decide +kernel
theorem dNM_19 : Dc cq24 19 (.getfield 17) 3 22 := by decide +kernel
theorem dNM_22 : Dc cq24 22 (.iload_n 1) 1 23 := by decide +kernel
theorem dNM_23 : Dc cq24 23 .iaload 1 24 := by decide +kernel
theorem dNM_24 : Db cq24 24 (.ifCond .eq 4) 4 27 28 := by decide +kernel
theorem dNM_28 : Dc cq24 28 (.iload_n 1) 1 29 := by decide +kernel
theorem dNM_29 : Dc cq24 29 (.aload_n 0) 1 30 := by decide +kernel
theorem dNM_30 : Dc cq24 30 (.getfield 21) 3 33 := by decide +kernel
theorem dNM_33 : Dc cq24 33 .iadd 1 34 := by decide +kernel
theorem dNM_34 : Dc cq24 34 (.istore_n 2) 1 35 := by decide +kernel
theorem dNM_35 : Dc cq24 35 (.iinc 1 1) 3 38 := by decide +kernel
theorem dNM_38 : Dc cq24 38 (.iload_n 1) 1 39 := by decide +kernel
theorem dNM_39 : Dc cq24 39 (.iload_n 2) 1 40 := by decide +kernel
theorem dNM_40 : Db cq24 40 (.if_icmp .ge 12) 12 43 52 := by decide +kernel
theorem dNM_43 : Dc cq24 43 (.aload_n 0) 1 44 := by decide +kernel
theorem dNM_44 : Dc cq24 44 (.getfield 17) 3 47 := by decide +kernel
theorem dNM_47 : Dc cq24 47 (.iload_n 1) 1 48 := by decide +kernel
theorem dNM_48 : Dc cq24 48 .iaload 1 49 := by decide +kernel
theorem dNM_49 : Db cq24 49 (.ifCond .eq (-14)) (-14) 52 35 := by decide +kernel
theorem dNM_52 : Dc cq24 52 (.iload_n 1) 1 53 := by decide +kernel
theorem dNM_53 : Dc cq24 53 (.aload_n 0) 1 54 := by decide +kernel
theorem dNM_54 : Dc cq24 54 (.getfield 11) 3 57 := by decide +kernel
theorem dNM_57 : Dc cq24 57 .isub 1 58 := by decide +kernel
theorem dNM_58 : Dc cq24 58 (.istore_n 3) 1 59 := by decide +kernel
theorem dNM_59 : Dc cq24 59 (.aload_n 0) 1 60 := by decide +kernel
theorem dNM_60 : Dc cq24 60 .dup 1 61 := by decide +kernel
theorem dNM_61 : Dc cq24 61 (.getfield 21) 3 64 := by decide +kernel
theorem dNM_64 : Dc cq24 64 (.iload_n 3) 1 65 := by decide +kernel
theorem dNM_65 : Dc cq24 65 .isub 1 66 := by decide +kernel
theorem dNM_66 : Dc cq24 66 (.putfield 21) 3 69 := by decide +kernel
theorem dNM_69 : Dc cq24 69 (.aload_n 0) 1 70 := by decide +kernel
theorem dNM_70 : Dc cq24 70 (.aload_n 0) 1 71 := by decide +kernel
theorem dNM_71 : Dc cq24 71 (.getfield 21) 3 74 := by decide +kernel
theorem dNM_74 : Db cq24 74 (.ifCond .ne 7) 7 77 81 := by decide +kernel
theorem dNM_81 : Dc cq24 81 (.aload_n 0) 1 82 := by decide +kernel
theorem dNM_82 : Dc cq24 82 (.getfield 11) 3 85 := by decide +kernel
theorem dNM_85 : Dc cq24 85 (.iload_n 3) 1 86 := by decide +kernel
theorem dNM_86 : Dc cq24 86 .iadd 1 87 := by decide +kernel
theorem dNM_87 : Dc cq24 87 (.putfield 11) 3 90 := by decide +kernel
theorem dNM_90 : Dc cq24 90 .return_ 1 91 := by decide +kernel
theorem dNM_27 : Dc cq24 27 .return_ 1 28 := by decide +kernel
theorem efNM (m : MethodId) (x0 : Addr) : entryFrame m #[.ref x0] 4 = mkF m 0 #[.val (.ref x0), .unset, .unset, .unset] [] := by first | (simp [entryFrame, mkF, argsToLocals, Value.category]; done) | rfl
theorem pnNM : plainFor (⟨"java/math/MutableBigInteger", "normalize", "()V"⟩ : MethodName) = true := plainFor_of_name (by first | (simp [plainName, overriddenIn]; done) | decide +kernel)
theorem dMW_0 : Dc cq25 0 (.iload_n 3) 1 1 := by decide +kernel
theorem dMW_1 : Dc cq25 1 .i2l 1 2 := by decide +kernel
theorem dMW_2 : Dc cq25 2 (.ldc2_w 52) 3 5 := by decide +kernel
theorem dMW_5 : Dc cq25 5 .land 1 6 := by decide +kernel
theorem dMW_6 : Dc cq25 6 (.lstore 6) 2 8 := by decide +kernel
theorem dMW_8 : Dc cq25 8 (.lconst 0) 1 9 := by decide +kernel
theorem dMW_9 : Dc cq25 9 (.lstore 8) 2 11 := by decide +kernel
theorem dMW_11 : Dc cq25 11 (.iload 5) 2 13 := by decide +kernel
theorem dMW_13 : Dc cq25 13 (.iload 4) 2 15 := by decide +kernel
theorem dMW_15 : Dc cq25 15 .iadd 1 16 := by decide +kernel
theorem dMW_16 : Dc cq25 16 (.istore 5) 2 18 := by decide +kernel
theorem dMW_18 : Dc cq25 18 (.iload 4) 2 20 := by decide +kernel
theorem dMW_20 : Dc cq25 20 (.iconst 1) 1 21 := by decide +kernel
theorem dMW_21 : Dc cq25 21 .isub 1 22 := by decide +kernel
theorem dMW_22 : Dc cq25 22 (.istore 10) 2 24 := by decide +kernel
theorem dMW_24 : Dc cq25 24 (.iload 10) 2 26 := by decide +kernel
theorem dMW_26 : Db cq25 26 (.ifCond .lt 73) 73 29 99 := by decide +kernel
theorem dMW_29 : Dc cq25 29 (.aload_n 2) 1 30 := by decide +kernel
theorem dMW_30 : Dc cq25 30 (.iload 10) 2 32 := by decide +kernel
theorem dMW_32 : Dc cq25 32 .iaload 1 33 := by decide +kernel
theorem dMW_33 : Dc cq25 33 .i2l 1 34 := by decide +kernel
theorem dMW_34 : Dc cq25 34 (.ldc2_w 52) 3 37 := by decide +kernel
theorem dMW_37 : Dc cq25 37 .land 1 38 := by decide +kernel
theorem dMW_38 : Dc cq25 38 (.lload 6) 2 40 := by decide +kernel
theorem dMW_40 : Dc cq25 40 .lmul 1 41 := by decide +kernel
theorem dMW_41 : Dc cq25 41 (.lload 8) 2 43 := by decide +kernel
theorem dMW_43 : Dc cq25 43 .ladd 1 44 := by decide +kernel
theorem dMW_44 : Dc cq25 44 (.lstore 11) 2 46 := by decide +kernel
theorem dMW_46 : Dc cq25 46 (.aload_n 1) 1 47 := by decide +kernel
theorem dMW_47 : Dc cq25 47 (.iload 5) 2 49 := by decide +kernel
theorem dMW_49 : Dc cq25 49 (.iinc 5 (-1)) 3 52 := by decide +kernel
theorem dMW_52 : Dc cq25 52 .iaload 1 53 := by decide +kernel
theorem dMW_53 : Dc cq25 53 .i2l 1 54 := by decide +kernel
theorem dMW_54 : Dc cq25 54 (.lload 11) 2 56 := by decide +kernel
theorem dMW_56 : Dc cq25 56 .lsub 1 57 := by decide +kernel
theorem dMW_57 : Dc cq25 57 (.lstore 13) 2 59 := by decide +kernel
theorem dMW_59 : Dc cq25 59 (.lload 11) 2 61 := by decide +kernel
theorem dMW_61 : Dc cq25 61 (.bipush 32) 2 63 := by decide +kernel
theorem dMW_63 : Dc cq25 63 .lushr 1 64 := by decide +kernel
theorem dMW_64 : Dc cq25 64 (.lload 13) 2 66 := by decide +kernel
theorem dMW_66 : Dc cq25 66 (.ldc2_w 52) 3 69 := by decide +kernel
theorem dMW_69 : Dc cq25 69 .land 1 70 := by decide +kernel
theorem dMW_70 : Dc cq25 70 (.lload 11) 2 72 := by decide +kernel
theorem dMW_72 : Dc cq25 72 .l2i 1 73 := by decide +kernel
theorem dMW_73 : Dc cq25 73 (.iconst (-1)) 1 74 := by decide +kernel
theorem dMW_74 : Dc cq25 74 .ixor 1 75 := by decide +kernel
theorem dMW_75 : Dc cq25 75 .i2l 1 76 := by decide +kernel
theorem dMW_76 : Dc cq25 76 (.ldc2_w 52) 3 79 := by decide +kernel
theorem dMW_79 : Dc cq25 79 .land 1 80 := by decide +kernel
theorem dMW_80 : Dc cq25 80 .lcmp 1 81 := by decide +kernel
theorem dMW_81 : Db cq25 81 (.ifCond .le 7) 7 84 88 := by decide +kernel
theorem dMW_84 : Dc cq25 84 (.iconst 1) 1 85 := by decide +kernel
theorem dMW_85 : Db cq25 85 (.goto 4) 4 88 89 := by decide +kernel
theorem dMW_88 : Dc cq25 88 (.iconst 0) 1 89 := by decide +kernel
theorem dMW_89 : Dc cq25 89 .i2l 1 90 := by decide +kernel
theorem dMW_90 : Dc cq25 90 .ladd 1 91 := by decide +kernel
theorem dMW_91 : Dc cq25 91 (.lstore 8) 2 93 := by decide +kernel
theorem dMW_93 : Dc cq25 93 (.iinc 10 (-1)) 3 96 := by decide +kernel
theorem dMW_96 : Db cq25 96 (.goto (-72)) (-72) 99 24 := by decide +kernel
theorem dMW_99 : Dc cq25 99 (.lload 8) 2 101 := by decide +kernel
theorem dMW_101 : Dc cq25 101 .l2i 1 102 := by decide +kernel
theorem dMW_102 : Dc cq25 102 .ireturn 1 103 := by decide +kernel
theorem efMW (m : MethodId) (x0 : Addr) (x1 : Addr) (x2 : Addr) (x3 : Int32) (x4 : Int32) (x5 : Int32) : entryFrame m #[.ref x0, .ref x1, .ref x2, .int x3, .int x4, .int x5] 15 = mkF m 0 #[.val (.ref x0), .val (.ref x1), .val (.ref x2), .val (.int x3), .val (.int x4), .val (.int x5), .unset, .unset, .unset, .unset, .unset, .unset, .unset, .unset, .unset] [] := by first | (simp [entryFrame, mkF, argsToLocals, Value.category]; done) | rfl
theorem pnMW : plainFor (⟨"java/math/MutableBigInteger", "mulsubBorrow", "([I[IIII)I"⟩ : MethodName) = true := plainFor_of_name (by first | (simp [plainName, overriddenIn]; done) | decide +kernel)
theorem dGI_0 : Dc cq26 0 (.iload_n 1) 1 1 := by decide +kernel
theorem dGI_1 : Db cq26 1 (.ifCond .ge 5) 5 4 6 := by decide +kernel
theorem dGI_6 : Dc cq26 6 (.iload_n 1) 1 7 := by decide +kernel
theorem dGI_7 : Dc cq26 7 (.aload_n 0) 1 8 := by decide +kernel
theorem dGI_8 : Dc cq26 8 (.getfield 28) 3 11 := by decide +kernel
theorem dGI_11 : Dc cq26 11 .arraylength 1 12 := by decide +kernel
theorem dGI_12 : Db cq26 12 (.if_icmp .lt 8) 8 15 20 := by decide +kernel
theorem dGI_20 : Dc cq26 20 (.aload_n 0) 1 21 := by decide +kernel
theorem dGI_21 : Dc cq26 21 (.getfield 28) 3 24 := by decide +kernel
theorem dGI_24 : Dc cq26 24 (.aload_n 0) 1 25 := by decide +kernel
theorem dGI_25 : Dc cq26 25 (.getfield 28) 3 28 := by decide +kernel
theorem dGI_28 : Dc cq26 28 .arraylength 1 29 := by decide +kernel
theorem dGI_29 : Dc cq26 29 (.iload_n 1) 1 30 := by decide +kernel
theorem dGI_30 : Dc cq26 30 .isub 1 31 := by decide +kernel
theorem dGI_31 : Dc cq26 31 (.iconst 1) 1 32 := by decide +kernel
theorem dGI_32 : Dc cq26 32 .isub 1 33 := by decide +kernel
theorem dGI_33 : Dc cq26 33 .iaload 1 34 := by decide +kernel
theorem dGI_34 : Dc cq26 34 (.istore_n 2) 1 35 := by decide +kernel
theorem dGI_35 : Dc cq26 35 (.aload_n 0) 1 36 := by decide +kernel
theorem dGI_36 : Dc cq26 36 (.getfield 32) 3 39 := by decide +kernel
theorem dGI_39 : Db cq26 39 (.ifCond .lt 7) 7 42 46 := by decide +kernel
theorem dGI_42 : Dc cq26 42 (.iload_n 2) 1 43 := by decide +kernel
theorem dGI_43 : Db cq26 43 (.goto 19) 19 46 62 := by decide +kernel
theorem dGI_62 : Dc cq26 62 .ireturn 1 63 := by decide +kernel
theorem efGI (m : MethodId) (x0 : Addr) (x1 : Int32) : entryFrame m #[.ref x0, .int x1] 3 = mkF m 0 #[.val (.ref x0), .val (.int x1), .unset] [] := by first | (simp [entryFrame, mkF, argsToLocals, Value.category]; done) | rfl
theorem pnGI : plainFor (⟨"java/math/BigInteger", "getInt", "(I)I"⟩ : MethodName) = true := plainFor_of_name (by first | (simp [plainName, overriddenIn]; done) | decide +kernel)
theorem dLV_0 : Dc cq27 0 (.lconst 0) 1 1 := by decide +kernel
theorem dLV_1 : Dc cq27 1 (.lstore_n 1) 1 2 := by decide +kernel
theorem dLV_2 : Dc cq27 2 (.iconst 1) 1 3 := by decide +kernel
theorem dLV_3 : Dc cq27 3 (.istore_n 3) 1 4 := by decide +kernel
theorem dLV_4 : Dc cq27 4 (.iload_n 3) 1 5 := by decide +kernel
theorem dLV_5 : Db cq27 5 (.ifCond .lt 25) 25 8 30 := by decide +kernel
theorem dLV_8 : Dc cq27 8 (.lload_n 1) 1 9 := by decide +kernel
theorem dLV_9 : Dc cq27 9 (.bipush 32) 2 11 := by decide +kernel
theorem dLV_11 : Dc cq27 11 .lshl 1 12 := by decide +kernel
theorem dLV_12 : Dc cq27 12 (.aload_n 0) 1 13 := by decide +kernel
theorem dLV_13 : Dc cq27 13 (.iload_n 3) 1 14 := by decide +kernel
theorem dLV_14 : Dc cq27 14 (.invokevirtual 736) 3 17 := by decide +kernel
theorem wd94 {Z a0} (hw : Hw Z a0) : (Cond.initialized "java/math/BigInteger").before a0 Z = true := hw _ (mg 94 rfl)
theorem pd_6 : parseMethodDescriptor "(I)I" = some ⟨[.int], some .int⟩ := by decide +kernel
theorem wd228 {Z a0} (hw : Hw Z a0) : (Cond.methodLink "java/math/BigInteger" 736 ⟨"java/math/BigInteger", "getInt", "(I)I"⟩).before a0 Z = true := hw _ (mg 228 rfl)
theorem wd230 {Z a0} (hw : Hw Z a0) : (Cond.privateMethod ⟨"java/math/BigInteger", "getInt", "(I)I"⟩).before a0 Z = true := hw _ (mg 230 rfl)
theorem wd231 {Z a0} (hw : Hw Z a0) : (Cond.selects "java/math/BigInteger" ⟨"java/math/BigInteger", "getInt", "(I)I"⟩ ⟨"java/math/BigInteger", "getInt", "(I)I"⟩).before a0 Z = true := hw _ (mg 231 rfl)
theorem wd229 {Z a0} (hw : Hw Z a0) : (Cond.instanceMethod ⟨"java/math/BigInteger", "getInt", "(I)I"⟩).before a0 Z = true := hw _ (mg 229 rfl)
theorem wd232 {Z a0} (hw : Hw Z a0) : (Cond.code ⟨"java/math/BigInteger", "getInt", "(I)I"⟩ jdk_2097_method_148_code 3 (Option.some .int)).before a0 Z = true := hw _ (mg 232 rfl)
theorem dLV_17 : Dc cq27 17 .i2l 1 18 := by decide +kernel
theorem dLV_18 : Dc cq27 18 (.ldc2_w 130) 3 21 := by decide +kernel
theorem wd139 {Z a0} (hw : Hw Z a0) : (Cond.constantLong "java/math/BigInteger" 130 (4294967295 : Int64)).before a0 Z = true := hw _ (mg 139 rfl)
theorem dLV_21 : Dc cq27 21 .land 1 22 := by decide +kernel
theorem dLV_22 : Dc cq27 22 .ladd 1 23 := by decide +kernel
theorem dLV_23 : Dc cq27 23 (.lstore_n 1) 1 24 := by decide +kernel
theorem dLV_24 : Dc cq27 24 (.iinc 3 (-1)) 3 27 := by decide +kernel
theorem dLV_27 : Db cq27 27 (.goto (-23)) (-23) 30 4 := by decide +kernel
theorem dLV_30 : Dc cq27 30 (.lload_n 1) 1 31 := by decide +kernel
theorem dLV_31 : Dc cq27 31 .lreturn 1 32 := by decide +kernel
theorem efLV (m : MethodId) (x0 : Addr) : entryFrame m #[.ref x0] 4 = mkF m 0 #[.val (.ref x0), .unset, .unset, .unset] [] := by first | (simp [entryFrame, mkF, argsToLocals, Value.category]; done) | rfl
theorem pnLV : plainFor (⟨"java/math/BigInteger", "longValue", "()J"⟩ : MethodName) = true := plainFor_of_name (by first | (simp [plainName, overriddenIn]; done) | decide +kernel)
theorem dFI_0 : Dc cq28 0 (.iconst 0) 1 1 := by decide +kernel
theorem dFI_1 : Dc cq28 1 (.istore_n 2) 1 2 := by decide +kernel
theorem dFI_2 : Dc cq28 2 (.aload_n 0) 1 3 := by decide +kernel
theorem dFI_3 : Dc cq28 3 .arraylength 1 4 := by decide +kernel
theorem dFI_4 : Dc cq28 4 (.istore_n 3) 1 5 := by decide +kernel
theorem dFI_5 : Dc cq28 5 (.iload_n 2) 1 6 := by decide +kernel
theorem dFI_6 : Dc cq28 6 (.iload_n 3) 1 7 := by decide +kernel
theorem dFI_7 : Db cq28 7 (.if_icmp .ge 13) 13 10 20 := by decide +kernel
theorem dFI_20 : Dc cq28 20 .return_ 1 21 := by decide +kernel
theorem dFI_10 : Dc cq28 10 (.aload_n 0) 1 11 := by decide +kernel
theorem dFI_11 : Dc cq28 11 (.iload_n 2) 1 12 := by decide +kernel
theorem dFI_12 : Dc cq28 12 (.iload_n 1) 1 13 := by decide +kernel
theorem dFI_13 : Dc cq28 13 .iastore 1 14 := by decide +kernel
theorem dFI_14 : Dc cq28 14 (.iinc 2 1) 3 17 := by decide +kernel
theorem dFI_17 : Db cq28 17 (.goto (-12)) (-12) 20 5 := by decide +kernel
theorem efFI (m : MethodId) (x0 : Addr) (x1 : Int32) : entryFrame m #[.ref x0, .int x1] 4 = mkF m 0 #[.val (.ref x0), .val (.int x1), .unset, .unset] [] := by first | (simp [entryFrame, mkF, argsToLocals, Value.category]; done) | rfl
theorem pnFI : plainFor (⟨"java/util/Arrays", "fill", "([II)V"⟩ : MethodName) = true := plainFor_of_name (by first | (simp [plainName, overriddenIn]; done) | decide +kernel)
theorem dCK_0 : Dc cq29 0 (.iload_n 1) 1 1 := by decide +kernel
theorem dCK_1 : Dc cq29 1 (.iload_n 0) 1 2 := by decide +kernel
theorem dCK_2 : Db cq29 2 (.if_icmp .ge 35) 35 5 37 := by decide +kernel
theorem dCK_37 : Dc cq29 37 .return_ 1 38 := by decide +kernel
theorem efCK (m : MethodId) (x0 : Int32) (x1 : Int32) : entryFrame m #[.int x0, .int x1] 2 = mkF m 0 #[.val (.int x0), .val (.int x1)] [] := by first | (simp [entryFrame, mkF, argsToLocals, Value.category]; done) | rfl
theorem pnCK : plainFor (⟨"java/util/Arrays", "checkLength", "(II)V"⟩ : MethodName) = true := plainFor_of_name (by first | (simp [plainName, overriddenIn]; done) | decide +kernel)
theorem dCI_0 : Dc cq30 0 (.iload_n 1) 1 1 := by decide +kernel
theorem dCI_1 : Dc cq30 1 (.iload_n 2) 1 2 := by decide +kernel
theorem dCI_2 : Dc cq30 2 (.invokestatic 343) 3 5 := by decide +kernel
theorem wd207 {Z a0} (hw : Hw Z a0) : (Cond.initialized "java/util/Arrays").before a0 Z = true := hw _ (mg 207 rfl)
theorem pd_7 : parseMethodDescriptor "(II)V" = some ⟨[.int, .int], none⟩ := by decide +kernel
theorem wd212 {Z a0} (hw : Hw Z a0) : (Cond.methodLink "java/util/Arrays" 343 ⟨"java/util/Arrays", "checkLength", "(II)V"⟩).before a0 Z = true := hw _ (mg 212 rfl)
theorem wd213 {Z a0} (hw : Hw Z a0) : (Cond.static ⟨"java/util/Arrays", "checkLength", "(II)V"⟩).before a0 Z = true := hw _ (mg 213 rfl)
theorem wd214 {Z a0} (hw : Hw Z a0) : (Cond.code ⟨"java/util/Arrays", "checkLength", "(II)V"⟩ jdk_65_method_131_code 2 (Option.none : Option Jvm.ClassFile.FieldType)).before a0 Z = true := hw _ (mg 214 rfl)
theorem dCI_5 : Dc cq30 5 (.iload_n 2) 1 6 := by decide +kernel
theorem dCI_6 : Dc cq30 6 (.iload_n 1) 1 7 := by decide +kernel
theorem dCI_7 : Dc cq30 7 .isub 1 8 := by decide +kernel
theorem dCI_8 : Dc cq30 8 (.istore_n 3) 1 9 := by decide +kernel
theorem dCI_9 : Dc cq30 9 (.iload_n 3) 1 10 := by decide +kernel
theorem dCI_10 : Dc cq30 10 (.newarray .int) 2 12 := by decide +kernel
theorem dCI_12 : Dc cq30 12 (.astore 4) 2 14 := by decide +kernel
theorem dCI_14 : Dc cq30 14 (.aload_n 0) 1 15 := by decide +kernel
theorem dCI_15 : Dc cq30 15 (.iload_n 1) 1 16 := by decide +kernel
theorem dCI_16 : Dc cq30 16 (.aload 4) 2 18 := by decide +kernel
theorem dCI_18 : Dc cq30 18 (.iconst 0) 1 19 := by decide +kernel
theorem dCI_19 : Dc cq30 19 (.aload_n 0) 1 20 := by decide +kernel
theorem dCI_20 : Dc cq30 20 .arraylength 1 21 := by decide +kernel
theorem dCI_21 : Dc cq30 21 (.iload_n 1) 1 22 := by decide +kernel
theorem dCI_22 : Dc cq30 22 .isub 1 23 := by decide +kernel
theorem dCI_23 : Dc cq30 23 (.iload_n 3) 1 24 := by decide +kernel
theorem dCI_24 : Dc cq30 24 (.invokestatic 304) 3 27 := by decide +kernel
theorem pd_8 : parseMethodDescriptor "(II)I" = some ⟨[.int, .int], some .int⟩ := by decide +kernel
theorem wd215 {Z a0} (hw : Hw Z a0) : (Cond.methodLink "java/util/Arrays" 304 ⟨"java/lang/Math", "min", "(II)I"⟩).before a0 Z = true := hw _ (mg 215 rfl)
theorem wd216 {Z a0} (hw : Hw Z a0) : (Cond.static ⟨"java/lang/Math", "min", "(II)I"⟩).before a0 Z = true := hw _ (mg 216 rfl)
theorem wd217 {Z a0} (hw : Hw Z a0) : (Cond.code ⟨"java/lang/Math", "min", "(II)I"⟩ jdk_29_method_69_code 2 (Option.some .int)).before a0 Z = true := hw _ (mg 217 rfl)
theorem dCI_27 : Dc cq30 27 (.invokestatic 150) 3 30 := by decide +kernel
theorem wd218 {Z a0} (hw : Hw Z a0) : (Cond.methodLink "java/util/Arrays" 150 ⟨"java/lang/System", "arraycopy", "(Ljava/lang/Object;ILjava/lang/Object;II)V"⟩).before a0 Z = true := hw _ (mg 218 rfl)
theorem wd113 {Z a0} (hw : Hw Z a0) : (Cond.native ⟨"java/lang/System", "arraycopy", "(Ljava/lang/Object;ILjava/lang/Object;II)V"⟩).before a0 Z = true := hw _ (mg 113 rfl)
theorem wd111 {Z a0} (hw : Hw Z a0) : (Cond.static ⟨"java/lang/System", "arraycopy", "(Ljava/lang/Object;ILjava/lang/Object;II)V"⟩).before a0 Z = true := hw _ (mg 111 rfl)
theorem wd112 {Z a0} (hw : Hw Z a0) : (Cond.initialized "java/lang/System").before a0 Z = true := hw _ (mg 112 rfl)
theorem dCI_30 : Dc cq30 30 (.aload 4) 2 32 := by decide +kernel
theorem dCI_32 : Dc cq30 32 .areturn 1 33 := by decide +kernel
theorem efCI (m : MethodId) (x0 : Addr) (x1 : Int32) (x2 : Int32) : entryFrame m #[.ref x0, .int x1, .int x2] 5 = mkF m 0 #[.val (.ref x0), .val (.int x1), .val (.int x2), .unset, .unset] [] := by first | (simp [entryFrame, mkF, argsToLocals, Value.category]; done) | rfl
theorem pnCI : plainFor (⟨"java/util/Arrays", "copyOfRangeInt", "([III)[I"⟩ : MethodName) = true := plainFor_of_name (by first | (simp [plainName, overriddenIn]; done) | decide +kernel)
theorem dCR_0 : Dc cq31 0 (.iload_n 1) 1 1 := by decide +kernel
theorem dCR_1 : Db cq31 1 (.ifCond .ne 9) 9 4 10 := by decide +kernel
theorem dCR_10 : Dc cq31 10 (.aload_n 0) 1 11 := by decide +kernel
theorem dCR_11 : Dc cq31 11 (.iload_n 1) 1 12 := by decide +kernel
theorem dCR_12 : Dc cq31 12 (.iload_n 2) 1 13 := by decide +kernel
theorem dCR_13 : Dc cq31 13 (.invokestatic 351) 3 16 := by decide +kernel
theorem pd_9 : parseMethodDescriptor "([III)[I" = some ⟨[(.array .int), .int, .int], some (.array .int)⟩ := by decide +kernel
theorem wd209 {Z a0} (hw : Hw Z a0) : (Cond.methodLink "java/util/Arrays" 351 ⟨"java/util/Arrays", "copyOfRangeInt", "([III)[I"⟩).before a0 Z = true := hw _ (mg 209 rfl)
theorem wd210 {Z a0} (hw : Hw Z a0) : (Cond.static ⟨"java/util/Arrays", "copyOfRangeInt", "([III)[I"⟩).before a0 Z = true := hw _ (mg 210 rfl)
theorem wd211 {Z a0} (hw : Hw Z a0) : (Cond.code ⟨"java/util/Arrays", "copyOfRangeInt", "([III)[I"⟩ jdk_65_method_137_code 5 (Option.some (.array .int))).before a0 Z = true := hw _ (mg 211 rfl)
theorem dCR_16 : Dc cq31 16 .areturn 1 17 := by decide +kernel
theorem efCR (m : MethodId) (x0 : Addr) (x1 : Int32) (x2 : Int32) : entryFrame m #[.ref x0, .int x1, .int x2] 3 = mkF m 0 #[.val (.ref x0), .val (.int x1), .val (.int x2)] [] := by first | (simp [entryFrame, mkF, argsToLocals, Value.category]; done) | rfl
theorem pnCR : plainFor (⟨"java/util/Arrays", "copyOfRange", "([III)[I"⟩ : MethodName) = true := plainFor_of_name (by first | (simp [plainName, overriddenIn]; done) | decide +kernel)
theorem dGM_0 : Dc cq32 0 (.aload_n 0) 1 1 := by decide +kernel
theorem dGM_1 : Dc cq32 1 (.getfield 11) 3 4 := by decide +kernel
theorem dGM_4 : Db cq32 4 (.ifCond .gt 15) 15 7 19 := by decide +kernel
theorem dGM_7 : Dc cq32 7 (.aload_n 0) 1 8 := by decide +kernel
theorem dGM_8 : Dc cq32 8 (.getfield 17) 3 11 := by decide +kernel
theorem dGM_11 : Dc cq32 11 .arraylength 1 12 := by decide +kernel
theorem dGM_12 : Dc cq32 12 (.aload_n 0) 1 13 := by decide +kernel
theorem dGM_13 : Dc cq32 13 (.getfield 21) 3 16 := by decide +kernel
theorem dGM_16 : Db cq32 16 (.if_icmp .eq 48) 48 19 64 := by decide +kernel
theorem dGM_64 : Dc cq32 64 (.aload_n 0) 1 65 := by decide +kernel
theorem dGM_65 : Dc cq32 65 (.getfield 17) 3 68 := by decide +kernel
theorem dGM_68 : Dc cq32 68 .areturn 1 69 := by decide +kernel
theorem dGM_19 : Dc cq32 19 (.aload_n 0) 1 20 := by decide +kernel
theorem dGM_20 : Dc cq32 20 (.getfield 17) 3 23 := by decide +kernel
theorem dGM_23 : Dc cq32 23 (.aload_n 0) 1 24 := by decide +kernel
theorem dGM_24 : Dc cq32 24 (.getfield 11) 3 27 := by decide +kernel
theorem dGM_27 : Dc cq32 27 (.aload_n 0) 1 28 := by decide +kernel
theorem dGM_28 : Dc cq32 28 (.getfield 11) 3 31 := by decide +kernel
theorem dGM_31 : Dc cq32 31 (.aload_n 0) 1 32 := by decide +kernel
theorem dGM_32 : Dc cq32 32 (.getfield 21) 3 35 := by decide +kernel
theorem dGM_35 : Dc cq32 35 .iadd 1 36 := by decide +kernel
theorem dGM_36 : Dc cq32 36 (.invokestatic 33) 3 39 := by decide +kernel
theorem wd205 {Z a0} (hw : Hw Z a0) : (Cond.methodLink "java/math/MutableBigInteger" 33 ⟨"java/util/Arrays", "copyOfRange", "([III)[I"⟩).before a0 Z = true := hw _ (mg 205 rfl)
theorem wd206 {Z a0} (hw : Hw Z a0) : (Cond.static ⟨"java/util/Arrays", "copyOfRange", "([III)[I"⟩).before a0 Z = true := hw _ (mg 206 rfl)
theorem wd208 {Z a0} (hw : Hw Z a0) : (Cond.code ⟨"java/util/Arrays", "copyOfRange", "([III)[I"⟩ jdk_65_method_136_code 3 (Option.some (.array .int))).before a0 Z = true := hw _ (mg 208 rfl)
theorem dGM_39 : Dc cq32 39 (.astore_n 1) 1 40 := by decide +kernel
theorem dGM_40 : Dc cq32 40 (.aload_n 0) 1 41 := by decide +kernel
theorem dGM_41 : Dc cq32 41 (.getfield 17) 3 44 := by decide +kernel
theorem dGM_44 : Dc cq32 44 (.iconst 0) 1 45 := by decide +kernel
theorem dGM_45 : Dc cq32 45 (.invokestatic 37) 3 48 := by decide +kernel
theorem pd_10 : parseMethodDescriptor "([II)V" = some ⟨[(.array .int), .int], none⟩ := by decide +kernel
theorem wd219 {Z a0} (hw : Hw Z a0) : (Cond.methodLink "java/math/MutableBigInteger" 37 ⟨"java/util/Arrays", "fill", "([II)V"⟩).before a0 Z = true := hw _ (mg 219 rfl)
theorem wd220 {Z a0} (hw : Hw Z a0) : (Cond.static ⟨"java/util/Arrays", "fill", "([II)V"⟩).before a0 Z = true := hw _ (mg 220 rfl)
theorem wd221 {Z a0} (hw : Hw Z a0) : (Cond.code ⟨"java/util/Arrays", "fill", "([II)V"⟩ jdk_65_method_103_code 4 (Option.none : Option Jvm.ClassFile.FieldType)).before a0 Z = true := hw _ (mg 221 rfl)
theorem dGM_48 : Dc cq32 48 (.aload_n 0) 1 49 := by decide +kernel
theorem dGM_49 : Dc cq32 49 (.iconst 0) 1 50 := by decide +kernel
theorem dGM_50 : Dc cq32 50 (.putfield 11) 3 53 := by decide +kernel
theorem dGM_53 : Dc cq32 53 (.aload_n 0) 1 54 := by decide +kernel
theorem dGM_54 : Dc cq32 54 (.aload_n 1) 1 55 := by decide +kernel
theorem dGM_55 : Dc cq32 55 .arraylength 1 56 := by decide +kernel
theorem dGM_56 : Dc cq32 56 (.putfield 21) 3 59 := by decide +kernel
theorem dGM_59 : Dc cq32 59 (.aload_n 0) 1 60 := by decide +kernel
theorem dGM_60 : Dc cq32 60 (.aload_n 1) 1 61 := by decide +kernel
theorem dGM_61 : Dc cq32 61 (.putfield 17) 3 64 := by decide +kernel
theorem efGM (m : MethodId) (x0 : Addr) : entryFrame m #[.ref x0] 2 = mkF m 0 #[.val (.ref x0), .unset] [] := by first | (simp [entryFrame, mkF, argsToLocals, Value.category]; done) | rfl
theorem pnGM : plainFor (⟨"java/math/MutableBigInteger", "getMagnitudeArray", "()[I"⟩ : MethodName) = true := plainFor_of_name (by first | (simp [plainName, overriddenIn]; done) | decide +kernel)
theorem dCA2_0 : Dc cq33 0 (.bipush 32) 2 2 := by decide +kernel
theorem dCA2_2 : Dc cq33 2 (.iload 5) 2 4 := by decide +kernel
theorem dCA2_4 : Dc cq33 4 .isub 1 5 := by decide +kernel
theorem dCA2_5 : Dc cq33 5 (.istore 6) 2 7 := by decide +kernel
theorem dCA2_7 : Dc cq33 7 (.aload_n 0) 1 8 := by decide +kernel
theorem dCA2_8 : Dc cq33 8 (.iload_n 1) 1 9 := by decide +kernel
theorem dCA2_9 : Dc cq33 9 .iaload 1 10 := by decide +kernel
theorem dCA2_10 : Dc cq33 10 (.istore 7) 2 12 := by decide +kernel
theorem dCA2_12 : Dc cq33 12 (.iconst 0) 1 13 := by decide +kernel
theorem dCA2_13 : Dc cq33 13 (.istore 8) 2 15 := by decide +kernel
theorem dCA2_15 : Dc cq33 15 (.iload 8) 2 17 := by decide +kernel
theorem dCA2_17 : Dc cq33 17 (.iload_n 2) 1 18 := by decide +kernel
theorem dCA2_18 : Dc cq33 18 (.iconst 1) 1 19 := by decide +kernel
theorem dCA2_19 : Dc cq33 19 .isub 1 20 := by decide +kernel
theorem dCA2_20 : Db cq33 20 (.if_icmp .ge 39) 39 23 59 := by decide +kernel
theorem dCA2_23 : Dc cq33 23 (.iload 7) 2 25 := by decide +kernel
theorem dCA2_25 : Dc cq33 25 (.istore 9) 2 27 := by decide +kernel
theorem dCA2_27 : Dc cq33 27 (.aload_n 0) 1 28 := by decide +kernel
theorem dCA2_28 : Dc cq33 28 (.iinc 1 1) 3 31 := by decide +kernel
theorem dCA2_31 : Dc cq33 31 (.iload_n 1) 1 32 := by decide +kernel
theorem dCA2_32 : Dc cq33 32 .iaload 1 33 := by decide +kernel
theorem dCA2_33 : Dc cq33 33 (.istore 7) 2 35 := by decide +kernel
theorem dCA2_35 : Dc cq33 35 (.aload_n 3) 1 36 := by decide +kernel
theorem dCA2_36 : Dc cq33 36 (.iload 4) 2 38 := by decide +kernel
theorem dCA2_38 : Dc cq33 38 (.iload 8) 2 40 := by decide +kernel
theorem dCA2_40 : Dc cq33 40 .iadd 1 41 := by decide +kernel
theorem dCA2_41 : Dc cq33 41 (.iload 9) 2 43 := by decide +kernel
theorem dCA2_43 : Dc cq33 43 (.iload 5) 2 45 := by decide +kernel
theorem dCA2_45 : Dc cq33 45 .ishl 1 46 := by decide +kernel
theorem dCA2_46 : Dc cq33 46 (.iload 7) 2 48 := by decide +kernel
theorem dCA2_48 : Dc cq33 48 (.iload 6) 2 50 := by decide +kernel
theorem dCA2_50 : Dc cq33 50 .iushr 1 51 := by decide +kernel
theorem dCA2_51 : Dc cq33 51 .ior 1 52 := by decide +kernel
theorem dCA2_52 : Dc cq33 52 .iastore 1 53 := by decide +kernel
theorem dCA2_53 : Dc cq33 53 (.iinc 8 1) 3 56 := by decide +kernel
theorem dCA2_56 : Db cq33 56 (.goto (-41)) (-41) 59 15 := by decide +kernel
theorem dCA2_59 : Dc cq33 59 (.aload_n 3) 1 60 := by decide +kernel
theorem dCA2_60 : Dc cq33 60 (.iload 4) 2 62 := by decide +kernel
theorem dCA2_62 : Dc cq33 62 (.iload_n 2) 1 63 := by decide +kernel
theorem dCA2_63 : Dc cq33 63 .iadd 1 64 := by decide +kernel
theorem dCA2_64 : Dc cq33 64 (.iconst 1) 1 65 := by decide +kernel
theorem dCA2_65 : Dc cq33 65 .isub 1 66 := by decide +kernel
theorem dCA2_66 : Dc cq33 66 (.iload 7) 2 68 := by decide +kernel
theorem dCA2_68 : Dc cq33 68 (.iload 5) 2 70 := by decide +kernel
theorem dCA2_70 : Dc cq33 70 .ishl 1 71 := by decide +kernel
theorem dCA2_71 : Dc cq33 71 .iastore 1 72 := by decide +kernel
theorem dCA2_72 : Dc cq33 72 .return_ 1 73 := by decide +kernel
theorem efCA2 (m : MethodId) (x0 : Addr) (x1 : Int32) (x2 : Int32) (x3 : Addr) (x4 : Int32) (x5 : Int32) : entryFrame m #[.ref x0, .int x1, .int x2, .ref x3, .int x4, .int x5] 10 = mkF m 0 #[.val (.ref x0), .val (.int x1), .val (.int x2), .val (.ref x3), .val (.int x4), .val (.int x5), .unset, .unset, .unset, .unset] [] := by first | (simp [entryFrame, mkF, argsToLocals, Value.category]; done) | rfl
theorem pnCA2 : plainFor (⟨"java/math/MutableBigInteger", "copyAndShift", "([III[III)V"⟩ : MethodName) = true := plainFor_of_name (by first | (simp [plainName, overriddenIn]; done) | decide +kernel)
theorem dCA4_0 : Dc cq33 0 (.bipush 32) 2 2 := by decide +kernel
theorem dCA4_2 : Dc cq33 2 (.iload 5) 2 4 := by decide +kernel
theorem dCA4_4 : Dc cq33 4 .isub 1 5 := by decide +kernel
theorem dCA4_5 : Dc cq33 5 (.istore 6) 2 7 := by decide +kernel
theorem dCA4_7 : Dc cq33 7 (.aload_n 0) 1 8 := by decide +kernel
theorem dCA4_8 : Dc cq33 8 (.iload_n 1) 1 9 := by decide +kernel
theorem dCA4_9 : Dc cq33 9 .iaload 1 10 := by decide +kernel
theorem dCA4_10 : Dc cq33 10 (.istore 7) 2 12 := by decide +kernel
theorem dCA4_12 : Dc cq33 12 (.iconst 0) 1 13 := by decide +kernel
theorem dCA4_13 : Dc cq33 13 (.istore 8) 2 15 := by decide +kernel
theorem dCA4_15 : Dc cq33 15 (.iload 8) 2 17 := by decide +kernel
theorem dCA4_17 : Dc cq33 17 (.iload_n 2) 1 18 := by decide +kernel
theorem dCA4_18 : Dc cq33 18 (.iconst 1) 1 19 := by decide +kernel
theorem dCA4_19 : Dc cq33 19 .isub 1 20 := by decide +kernel
theorem dCA4_20 : Db cq33 20 (.if_icmp .ge 39) 39 23 59 := by decide +kernel
theorem dCA4_23 : Dc cq33 23 (.iload 7) 2 25 := by decide +kernel
theorem dCA4_25 : Dc cq33 25 (.istore 9) 2 27 := by decide +kernel
theorem dCA4_27 : Dc cq33 27 (.aload_n 0) 1 28 := by decide +kernel
theorem dCA4_28 : Dc cq33 28 (.iinc 1 1) 3 31 := by decide +kernel
theorem dCA4_31 : Dc cq33 31 (.iload_n 1) 1 32 := by decide +kernel
theorem dCA4_32 : Dc cq33 32 .iaload 1 33 := by decide +kernel
theorem dCA4_33 : Dc cq33 33 (.istore 7) 2 35 := by decide +kernel
theorem dCA4_35 : Dc cq33 35 (.aload_n 3) 1 36 := by decide +kernel
theorem dCA4_36 : Dc cq33 36 (.iload 4) 2 38 := by decide +kernel
theorem dCA4_38 : Dc cq33 38 (.iload 8) 2 40 := by decide +kernel
theorem dCA4_40 : Dc cq33 40 .iadd 1 41 := by decide +kernel
theorem dCA4_41 : Dc cq33 41 (.iload 9) 2 43 := by decide +kernel
theorem dCA4_43 : Dc cq33 43 (.iload 5) 2 45 := by decide +kernel
theorem dCA4_45 : Dc cq33 45 .ishl 1 46 := by decide +kernel
theorem dCA4_46 : Dc cq33 46 (.iload 7) 2 48 := by decide +kernel
theorem dCA4_48 : Dc cq33 48 (.iload 6) 2 50 := by decide +kernel
theorem dCA4_50 : Dc cq33 50 .iushr 1 51 := by decide +kernel
theorem dCA4_51 : Dc cq33 51 .ior 1 52 := by decide +kernel
theorem dCA4_52 : Dc cq33 52 .iastore 1 53 := by decide +kernel
theorem dCA4_53 : Dc cq33 53 (.iinc 8 1) 3 56 := by decide +kernel
theorem dCA4_56 : Db cq33 56 (.goto (-41)) (-41) 59 15 := by decide +kernel
theorem dCA4_59 : Dc cq33 59 (.aload_n 3) 1 60 := by decide +kernel
theorem dCA4_60 : Dc cq33 60 (.iload 4) 2 62 := by decide +kernel
theorem dCA4_62 : Dc cq33 62 (.iload_n 2) 1 63 := by decide +kernel
theorem dCA4_63 : Dc cq33 63 .iadd 1 64 := by decide +kernel
theorem dCA4_64 : Dc cq33 64 (.iconst 1) 1 65 := by decide +kernel
theorem dCA4_65 : Dc cq33 65 .isub 1 66 := by decide +kernel
theorem dCA4_66 : Dc cq33 66 (.iload 7) 2 68 := by decide +kernel
theorem dCA4_68 : Dc cq33 68 (.iload 5) 2 70 := by decide +kernel
theorem dCA4_70 : Dc cq33 70 .ishl 1 71 := by decide +kernel
theorem dCA4_71 : Dc cq33 71 .iastore 1 72 := by decide +kernel
theorem dCA4_72 : Dc cq33 72 .return_ 1 73 := by decide +kernel
theorem efCA4 (m : MethodId) (x0 : Addr) (x1 : Int32) (x2 : Int32) (x3 : Addr) (x4 : Int32) (x5 : Int32) : entryFrame m #[.ref x0, .int x1, .int x2, .ref x3, .int x4, .int x5] 10 = mkF m 0 #[.val (.ref x0), .val (.int x1), .val (.int x2), .val (.ref x3), .val (.int x4), .val (.int x5), .unset, .unset, .unset, .unset] [] := by first | (simp [entryFrame, mkF, argsToLocals, Value.category]; done) | rfl
theorem pnCA4 : plainFor (⟨"java/math/MutableBigInteger", "copyAndShift", "([III[III)V"⟩ : MethodName) = true := plainFor_of_name (by first | (simp [plainName, overriddenIn]; done) | decide +kernel)
theorem dNL_0 : Dc cq34 0 (.lload_n 0) 1 1 := by decide +kernel
theorem dNL_1 : Dc cq34 1 (.bipush 32) 2 3 := by decide +kernel
theorem dNL_3 : Dc cq34 3 .lushr 1 4 := by decide +kernel
theorem dNL_4 : Dc cq34 4 .l2i 1 5 := by decide +kernel
theorem dNL_5 : Dc cq34 5 (.istore_n 2) 1 6 := by decide +kernel
theorem dNL_6 : Dc cq34 6 (.iload_n 2) 1 7 := by decide +kernel
theorem dNL_7 : Db cq34 7 (.ifCond .ne 14) 14 10 21 := by decide +kernel
theorem dNL_10 : Dc cq34 10 (.bipush 32) 2 12 := by decide +kernel
theorem dNL_12 : Dc cq34 12 (.lload_n 0) 1 13 := by decide +kernel
theorem dNL_13 : Dc cq34 13 .l2i 1 14 := by decide +kernel
theorem dNL_14 : Dc cq34 14 (.invokestatic 308) 3 17 := by decide +kernel
theorem wd83 {Z a0} (hw : Hw Z a0) : (Cond.initialized "java/lang/Integer").before a0 Z = true := hw _ (mg 83 rfl)
theorem wd81 {Z a0} (hw : Hw Z a0) : (Cond.methodLink "java/lang/Long" 308 ⟨"java/lang/Integer", "numberOfLeadingZeros", "(I)I"⟩).before a0 Z = true := hw _ (mg 81 rfl)
theorem wd82 {Z a0} (hw : Hw Z a0) : (Cond.static ⟨"java/lang/Integer", "numberOfLeadingZeros", "(I)I"⟩).before a0 Z = true := hw _ (mg 82 rfl)
theorem wd84 {Z a0} (hw : Hw Z a0) : (Cond.code ⟨"java/lang/Integer", "numberOfLeadingZeros", "(I)I"⟩ jdk_33_method_47_code 2 (Option.some .int)).before a0 Z = true := hw _ (mg 84 rfl)
theorem dNL_17 : Dc cq34 17 .iadd 1 18 := by decide +kernel
theorem dNL_18 : Db cq34 18 (.goto 7) 7 21 25 := by decide +kernel
theorem dNL_25 : Dc cq34 25 .ireturn 1 26 := by decide +kernel
theorem dNL_21 : Dc cq34 21 (.iload_n 2) 1 22 := by decide +kernel
theorem dNL_22 : Dc cq34 22 (.invokestatic 308) 3 25 := by decide +kernel
theorem efNL (m : MethodId) (x0 : Int64) : entryFrame m #[.long x0] 3 = mkF m 0 #[.val (.long x0), .second, .unset] [] := by first | (simp [entryFrame, mkF, argsToLocals, Value.category]; done) | rfl
theorem pnNL : plainFor (⟨"java/lang/Long", "numberOfLeadingZeros", "(J)I"⟩ : MethodName) = true := plainFor_of_name (by first | (simp [plainName, overriddenIn]; done) | decide +kernel)
theorem dTB_0 : Dc cq35 0 (.aload_n 0) 1 1 := by decide +kernel
theorem dTB_1 : Dc cq35 1 (.getfield 21) 3 4 := by decide +kernel
theorem dTB_4 : Db cq35 4 (.ifCond .eq 7) 7 7 11 := by decide +kernel
theorem dTB_7 : Dc cq35 7 (.iload_n 1) 1 8 := by decide +kernel
theorem dTB_8 : Db cq35 8 (.ifCond .ne 7) 7 11 15 := by decide +kernel
theorem dTB_15 : Dc cq35 15 (.new 1) 3 18 := by decide +kernel
theorem wd199 {Z a0} (hw : Hw Z a0) : (Cond.classLink "java/math/MutableBigInteger" 1 "java/math/BigInteger").before a0 Z = true := hw _ (mg 199 rfl)
theorem dTB_18 : Dc cq35 18 .dup 1 19 := by decide +kernel
theorem dTB_19 : Dc cq35 19 (.aload_n 0) 1 20 := by decide +kernel
theorem dTB_20 : Dc cq35 20 (.invokevirtual 58) 3 23 := by decide +kernel
theorem wd152 {Z a0} (hw : Hw Z a0) : (Cond.initialized "java/math/MutableBigInteger").before a0 Z = true := hw _ (mg 152 rfl)
theorem pd_11 : parseMethodDescriptor "()[I" = some ⟨[], some (.array .int)⟩ := by decide +kernel
theorem wd200 {Z a0} (hw : Hw Z a0) : (Cond.methodLink "java/math/MutableBigInteger" 58 ⟨"java/math/MutableBigInteger", "getMagnitudeArray", "()[I"⟩).before a0 Z = true := hw _ (mg 200 rfl)
theorem wd202 {Z a0} (hw : Hw Z a0) : (Cond.privateMethod ⟨"java/math/MutableBigInteger", "getMagnitudeArray", "()[I"⟩).before a0 Z = true := hw _ (mg 202 rfl)
theorem wd203 {Z a0} (hw : Hw Z a0) : (Cond.selects "java/math/MutableBigInteger" ⟨"java/math/MutableBigInteger", "getMagnitudeArray", "()[I"⟩ ⟨"java/math/MutableBigInteger", "getMagnitudeArray", "()[I"⟩).before a0 Z = true := hw _ (mg 203 rfl)
theorem wd201 {Z a0} (hw : Hw Z a0) : (Cond.instanceMethod ⟨"java/math/MutableBigInteger", "getMagnitudeArray", "()[I"⟩).before a0 Z = true := hw _ (mg 201 rfl)
theorem wd204 {Z a0} (hw : Hw Z a0) : (Cond.code ⟨"java/math/MutableBigInteger", "getMagnitudeArray", "()[I"⟩ jdk_2101_method_7_code 2 (Option.some (.array .int))).before a0 Z = true := hw _ (mg 204 rfl)
theorem dTB_23 : Dc cq35 23 (.iload_n 1) 1 24 := by decide +kernel
theorem dTB_24 : Dc cq35 24 (.invokespecial 62) 3 27 := by decide +kernel
theorem wd222 {Z a0} (hw : Hw Z a0) : (Cond.methodLink "java/math/MutableBigInteger" 62 ⟨"java/math/BigInteger", "<init>", "([II)V"⟩).before a0 Z = true := hw _ (mg 222 rfl)
theorem wd115 {Z a0} (hw : Hw Z a0) : (Cond.instanceMethod ⟨"java/math/BigInteger", "<init>", "([II)V"⟩).before a0 Z = true := hw _ (mg 115 rfl)
theorem wd117 {Z a0} (hw : Hw Z a0) : (Cond.code ⟨"java/math/BigInteger", "<init>", "([II)V"⟩ jdk_2097_method_25_code 3 (Option.none : Option Jvm.ClassFile.FieldType)).before a0 Z = true := hw _ (mg 117 rfl)
theorem dTB_27 : Dc cq35 27 .areturn 1 28 := by decide +kernel
theorem efTB (m : MethodId) (x0 : Addr) (x1 : Int32) : entryFrame m #[.ref x0, .int x1] 2 = mkF m 0 #[.val (.ref x0), .val (.int x1)] [] := by first | (simp [entryFrame, mkF, argsToLocals, Value.category]; done) | rfl
theorem pnTB : plainFor (⟨"java/math/MutableBigInteger", "toBigInteger", "(I)Ljava/math/BigInteger;"⟩ : MethodName) = true := plainFor_of_name (by first | (simp [plainName, overriddenIn]; done) | decide +kernel)
theorem dBJ_0 : Dc cq36 0 (.aload_n 0) 1 1 := by decide +kernel
theorem dBJ_1 : Dc cq36 1 (.invokespecial 3) 3 4 := by decide +kernel
theorem dBJ_4 : Dc cq36 4 (.lload_n 1) 1 5 := by decide +kernel
theorem dBJ_5 : Dc cq36 5 (.lconst 0) 1 6 := by decide +kernel
theorem dBJ_6 : Dc cq36 6 .lcmp 1 7 := by decide +kernel
theorem dBJ_7 : Db cq36 7 (.ifCond .ge 14) 14 10 21 := by decide +kernel
theorem dBJ_21 : Dc cq36 21 (.aload_n 0) 1 22 := by decide +kernel
theorem dBJ_22 : Dc cq36 22 (.iconst 1) 1 23 := by decide +kernel
theorem dBJ_23 : Dc cq36 23 (.putfield 32) 3 26 := by decide +kernel
theorem dBJ_26 : Dc cq36 26 (.lload_n 1) 1 27 := by decide +kernel
theorem dBJ_27 : Dc cq36 27 (.bipush 32) 2 29 := by decide +kernel
theorem dBJ_29 : Dc cq36 29 .lushr 1 30 := by decide +kernel
theorem dBJ_30 : Dc cq36 30 .l2i 1 31 := by decide +kernel
theorem dBJ_31 : Dc cq36 31 (.istore_n 3) 1 32 := by decide +kernel
theorem dBJ_32 : Dc cq36 32 (.iload_n 3) 1 33 := by decide +kernel
theorem dBJ_33 : Db cq36 33 (.ifCond .ne 21) 21 36 54 := by decide +kernel
theorem dBJ_36 : Dc cq36 36 (.aload_n 0) 1 37 := by decide +kernel
theorem dBJ_37 : Dc cq36 37 (.iconst 1) 1 38 := by decide +kernel
theorem dBJ_38 : Dc cq36 38 (.newarray .int) 2 40 := by decide +kernel
theorem dBJ_40 : Dc cq36 40 (.putfield 28) 3 43 := by decide +kernel
theorem dBJ_43 : Dc cq36 43 (.aload_n 0) 1 44 := by decide +kernel
theorem dBJ_44 : Dc cq36 44 (.getfield 28) 3 47 := by decide +kernel
theorem dBJ_47 : Dc cq36 47 (.iconst 0) 1 48 := by decide +kernel
theorem dBJ_48 : Dc cq36 48 (.lload_n 1) 1 49 := by decide +kernel
theorem dBJ_49 : Dc cq36 49 .l2i 1 50 := by decide +kernel
theorem dBJ_50 : Dc cq36 50 .iastore 1 51 := by decide +kernel
theorem dBJ_51 : Db cq36 51 (.goto 25) 25 54 76 := by decide +kernel
theorem dBJ_76 : Dc cq36 76 .return_ 1 77 := by decide +kernel
theorem dBJ_54 : Dc cq36 54 (.aload_n 0) 1 55 := by decide +kernel
theorem dBJ_55 : Dc cq36 55 (.iconst 2) 1 56 := by decide +kernel
theorem dBJ_56 : Dc cq36 56 (.newarray .int) 2 58 := by decide +kernel
theorem dBJ_58 : Dc cq36 58 (.putfield 28) 3 61 := by decide +kernel
theorem dBJ_61 : Dc cq36 61 (.aload_n 0) 1 62 := by decide +kernel
theorem dBJ_62 : Dc cq36 62 (.getfield 28) 3 65 := by decide +kernel
theorem dBJ_65 : Dc cq36 65 (.iconst 0) 1 66 := by decide +kernel
theorem dBJ_66 : Dc cq36 66 (.iload_n 3) 1 67 := by decide +kernel
theorem dBJ_67 : Dc cq36 67 .iastore 1 68 := by decide +kernel
theorem dBJ_68 : Dc cq36 68 (.aload_n 0) 1 69 := by decide +kernel
theorem dBJ_69 : Dc cq36 69 (.getfield 28) 3 72 := by decide +kernel
theorem dBJ_72 : Dc cq36 72 (.iconst 1) 1 73 := by decide +kernel
theorem dBJ_73 : Dc cq36 73 (.lload_n 1) 1 74 := by decide +kernel
theorem dBJ_74 : Dc cq36 74 .l2i 1 75 := by decide +kernel
theorem dBJ_75 : Dc cq36 75 .iastore 1 76 := by decide +kernel
theorem efBJ (m : MethodId) (x0 : Addr) (x1 : Int64) : entryFrame m #[.ref x0, .long x1] 4 = mkF m 0 #[.val (.ref x0), .val (.long x1), .second, .unset] [] := by first | (simp [entryFrame, mkF, argsToLocals, Value.category]; done) | rfl
theorem pnBJ : plainFor (⟨"java/math/BigInteger", "<init>", "(J)V"⟩ : MethodName) = true := plainFor_of_name (by first | (simp [plainName, overriddenIn]; done) | decide +kernel)
theorem dVO_0 : Dc cq37 0 (.lload_n 0) 1 1 := by decide +kernel
theorem dVO_1 : Dc cq37 1 (.lconst 0) 1 2 := by decide +kernel
theorem dVO_2 : Dc cq37 2 .lcmp 1 3 := by decide +kernel
theorem dVO_3 : Db cq37 3 (.ifCond .ne 7) 7 6 10 := by decide +kernel
theorem dVO_6 : Dc cq37 6 (.getstatic 22) 3 9 := by decide +kernel
theorem wd327 {Z a0} (hw : Hw Z a0) : (Cond.fieldLink "java/math/BigInteger" 22 "java/math/BigInteger" "ZERO" "Ljava/math/BigInteger;").before a0 Z = true := hw _ (mg 327 rfl)
theorem dVO_9 : Dc cq37 9 .areturn 1 10 := by decide +kernel
theorem dVO_10 : Dc cq37 10 (.lload_n 0) 1 11 := by decide +kernel
theorem dVO_11 : Dc cq37 11 (.lconst 0) 1 12 := by decide +kernel
theorem dVO_12 : Dc cq37 12 .lcmp 1 13 := by decide +kernel
theorem dVO_13 : Db cq37 13 (.ifCond .le 18) 18 16 31 := by decide +kernel
theorem dVO_16 : Dc cq37 16 (.lload_n 0) 1 17 := by decide +kernel
theorem dVO_17 : Dc cq37 17 (.ldc2_w 345) 3 20 := by decide +kernel
theorem wd129 {Z a0} (hw : Hw Z a0) : (Cond.constantLong "java/math/BigInteger" 345 (16 : Int64)).before a0 Z = true := hw _ (mg 129 rfl)
theorem dVO_20 : Dc cq37 20 .lcmp 1 21 := by decide +kernel
theorem dVO_21 : Db cq37 21 (.ifCond .gt 10) 10 24 31 := by decide +kernel
theorem dVO_31 : Dc cq37 31 (.lload_n 0) 1 32 := by decide +kernel
theorem dVO_32 : Dc cq37 32 (.lconst 0) 1 33 := by decide +kernel
theorem dVO_33 : Dc cq37 33 .lcmp 1 34 := by decide +kernel
theorem dVO_34 : Db cq37 34 (.ifCond .ge 19) 19 37 53 := by decide +kernel
theorem dVO_53 : Dc cq37 53 (.new 23) 3 56 := by decide +kernel
theorem wd102 {Z a0} (hw : Hw Z a0) : (Cond.classLink "java/math/BigInteger" 23 "java/math/BigInteger").before a0 Z = true := hw _ (mg 102 rfl)
theorem dVO_56 : Dc cq37 56 .dup 1 57 := by decide +kernel
theorem dVO_57 : Dc cq37 57 (.lload_n 0) 1 58 := by decide +kernel
theorem dVO_58 : Dc cq37 58 (.invokespecial 356) 3 61 := by decide +kernel
theorem pd_12 : parseMethodDescriptor "(J)V" = some ⟨[.long], none⟩ := by decide +kernel
theorem wd248 {Z a0} (hw : Hw Z a0) : (Cond.methodLink "java/math/BigInteger" 356 ⟨"java/math/BigInteger", "<init>", "(J)V"⟩).before a0 Z = true := hw _ (mg 248 rfl)
theorem wd249 {Z a0} (hw : Hw Z a0) : (Cond.instanceMethod ⟨"java/math/BigInteger", "<init>", "(J)V"⟩).before a0 Z = true := hw _ (mg 249 rfl)
theorem wd250 {Z a0} (hw : Hw Z a0) : (Cond.code ⟨"java/math/BigInteger", "<init>", "(J)V"⟩ jdk_2097_method_30_code 4 (Option.none : Option Jvm.ClassFile.FieldType)).before a0 Z = true := hw _ (mg 250 rfl)
theorem dVO_61 : Dc cq37 61 .areturn 1 62 := by decide +kernel
theorem dVO_24 : Dc cq37 24 (.getstatic 347) 3 27 := by decide +kernel
theorem wd130 {Z a0} (hw : Hw Z a0) : (Cond.fieldLink "java/math/BigInteger" 347 "java/math/BigInteger" "posConst" "[Ljava/math/BigInteger;").before a0 Z = true := hw _ (mg 130 rfl)
theorem dVO_27 : Dc cq37 27 (.lload_n 0) 1 28 := by decide +kernel
theorem dVO_28 : Dc cq37 28 .l2i 1 29 := by decide +kernel
theorem dVO_29 : Dc cq37 29 .aaload 1 30 := by decide +kernel
theorem dVO_30 : Dc cq37 30 .areturn 1 31 := by decide +kernel
theorem efVO (m : MethodId) (x0 : Int64) : entryFrame m #[.long x0] 2 = mkF m 0 #[.val (.long x0), .second] [] := by first | (simp [entryFrame, mkF, argsToLocals, Value.category]; done) | rfl
theorem pnVO : plainFor (⟨"java/math/BigInteger", "valueOf", "(J)Ljava/math/BigInteger;"⟩ : MethodName) = true := plainFor_of_name (by first | (simp [plainName, overriddenIn]; done) | decide +kernel)
theorem dPF_0 : Dc cq38 0 (.iload_n 0) 1 1 := by decide +kernel
theorem dPF_1 : Db cq38 1 (.ifCond .lt 13) 13 4 14 := by decide +kernel
theorem dPF_4 : Dc cq38 4 (.iload_n 0) 1 5 := by decide +kernel
theorem dPF_5 : Dc cq38 5 (.iload_n 1) 1 6 := by decide +kernel
theorem dPF_6 : Db cq38 6 (.if_icmp .gt 8) 8 9 14 := by decide +kernel
theorem dPF_9 : Dc cq38 9 (.iload_n 1) 1 10 := by decide +kernel
theorem dPF_10 : Dc cq38 10 (.iload_n 2) 1 11 := by decide +kernel
theorem dPF_11 : Db cq38 11 (.if_icmp .le 11) 11 14 22 := by decide +kernel
theorem dPF_22 : Dc cq38 22 (.iload_n 0) 1 23 := by decide +kernel
theorem dPF_23 : Dc cq38 23 .ireturn 1 24 := by decide +kernel
theorem efPF (m : MethodId) (x0 : Int32) (x1 : Int32) (x2 : Int32) : entryFrame m #[.int x0, .int x1, .int x2, .null] 4 = mkF m 0 #[.val (.int x0), .val (.int x1), .val (.int x2), .val .null] [] := by first | (simp [entryFrame, mkF, argsToLocals, Value.category]; done) | rfl
theorem pnPF : plainFor (⟨"jdk/internal/util/Preconditions", "checkFromToIndex", "(IIILjava/util/function/BiFunction;)I"⟩ : MethodName) = true := plainFor_of_name (by first | (simp [plainName, overriddenIn]; done) | decide +kernel)
theorem dOC_0 : Dc cq39 0 (.iload_n 0) 1 1 := by decide +kernel
theorem dOC_1 : Dc cq39 1 (.iload_n 1) 1 2 := by decide +kernel
theorem dOC_2 : Dc cq39 2 (.iload_n 2) 1 3 := by decide +kernel
theorem dOC_3 : Dc cq39 3 .aconst_null 1 4 := by decide +kernel
theorem dOC_4 : Dc cq39 4 (.invokestatic 111) 3 7 := by decide +kernel
theorem wd243 {Z a0} (hw : Hw Z a0) : (Cond.initialized "jdk/internal/util/Preconditions").before a0 Z = true := hw _ (mg 243 rfl)
theorem pd_13 : parseMethodDescriptor "(IIILjava/util/function/BiFunction;)I" = some ⟨[.int, .int, .int, (.object "java/util/function/BiFunction")], some .int⟩ := by decide +kernel
theorem wd241 {Z a0} (hw : Hw Z a0) : (Cond.methodLink "java/util/Objects" 111 ⟨"jdk/internal/util/Preconditions", "checkFromToIndex", "(IIILjava/util/function/BiFunction;)I"⟩).before a0 Z = true := hw _ (mg 241 rfl)
theorem wd242 {Z a0} (hw : Hw Z a0) : (Cond.static ⟨"jdk/internal/util/Preconditions", "checkFromToIndex", "(IIILjava/util/function/BiFunction;)I"⟩).before a0 Z = true := hw _ (mg 242 rfl)
theorem wd244 {Z a0} (hw : Hw Z a0) : (Cond.code ⟨"jdk/internal/util/Preconditions", "checkFromToIndex", "(IIILjava/util/function/BiFunction;)I"⟩ jdk_41_method_12_code 4 (Option.some .int)).before a0 Z = true := hw _ (mg 244 rfl)
theorem dOC_7 : Dc cq39 7 .ireturn 1 8 := by decide +kernel
theorem efOC (m : MethodId) (x0 : Int32) (x1 : Int32) (x2 : Int32) : entryFrame m #[.int x0, .int x1, .int x2] 3 = mkF m 0 #[.val (.int x0), .val (.int x1), .val (.int x2)] [] := by first | (simp [entryFrame, mkF, argsToLocals, Value.category]; done) | rfl
theorem pnOC : plainFor (⟨"java/util/Objects", "checkFromToIndex", "(III)I"⟩ : MethodName) = true := plainFor_of_name (by first | (simp [plainName, overriddenIn]; done) | decide +kernel)
theorem dSW_0 : Dc cq40 0 (.bipush 32) 2 2 := by decide +kernel
theorem dSW_2 : Dc cq40 2 (.iload_n 3) 1 3 := by decide +kernel
theorem dSW_3 : Dc cq40 3 .isub 1 4 := by decide +kernel
theorem dSW_4 : Dc cq40 4 (.istore 5) 2 6 := by decide +kernel
theorem dSW_6 : Dc cq40 6 (.iconst 0) 1 7 := by decide +kernel
theorem dSW_7 : Dc cq40 7 (.istore 6) 2 9 := by decide +kernel
theorem dSW_9 : Dc cq40 9 (.iload 6) 2 11 := by decide +kernel
theorem dSW_11 : Dc cq40 11 (.iload 4) 2 13 := by decide +kernel
theorem dSW_13 : Db cq40 13 (.if_icmp .ge 29) 29 16 42 := by decide +kernel
theorem dSW_42 : Dc cq40 42 .return_ 1 43 := by decide +kernel
theorem efSW (m : MethodId) (x0 : Addr) (x1 : Addr) (x2 : Int32) (x3 : Int32) (x4 : Int32) : entryFrame m #[.ref x0, .ref x1, .int x2, .int x3, .int x4] 7 = mkF m 0 #[.val (.ref x0), .val (.ref x1), .val (.int x2), .val (.int x3), .val (.int x4), .unset, .unset] [] := by first | (simp [entryFrame, mkF, argsToLocals, Value.category]; done) | rfl
theorem pnSW : plainFor (⟨"java/math/BigInteger", "shiftLeftImplWorker", "([I[IIII)V"⟩ : MethodName) = true := plainFor_of_name (by first | (simp [plainName, overriddenIn]; done) | decide +kernel)
theorem dSI_0 : Dc cq41 0 (.iload_n 1) 1 1 := by decide +kernel
theorem dSI_1 : Dc cq41 1 (.iconst 5) 1 2 := by decide +kernel
theorem dSI_2 : Dc cq41 2 .iushr 1 3 := by decide +kernel
theorem dSI_3 : Dc cq41 3 (.istore_n 2) 1 4 := by decide +kernel
theorem dSI_4 : Dc cq41 4 (.iload_n 1) 1 5 := by decide +kernel
theorem dSI_5 : Dc cq41 5 (.bipush 31) 2 7 := by decide +kernel
theorem dSI_7 : Dc cq41 7 .iand 1 8 := by decide +kernel
theorem dSI_8 : Dc cq41 8 (.istore_n 3) 1 9 := by decide +kernel
theorem dSI_9 : Dc cq41 9 (.aload_n 0) 1 10 := by decide +kernel
theorem dSI_10 : Dc cq41 10 .arraylength 1 11 := by decide +kernel
theorem dSI_11 : Dc cq41 11 (.istore 4) 2 13 := by decide +kernel
theorem dSI_13 : Dc cq41 13 .aconst_null 1 14 := by decide +kernel
theorem dSI_14 : Dc cq41 14 (.astore 5) 2 16 := by decide +kernel
theorem dSI_16 : Dc cq41 16 (.iload_n 3) 1 17 := by decide +kernel
theorem dSI_17 : Db cq41 17 (.ifCond .ne 24) 24 20 41 := by decide +kernel
theorem dSI_20 : Dc cq41 20 (.iload 4) 2 22 := by decide +kernel
theorem dSI_22 : Dc cq41 22 (.iload_n 2) 1 23 := by decide +kernel
theorem dSI_23 : Dc cq41 23 .iadd 1 24 := by decide +kernel
theorem dSI_24 : Dc cq41 24 (.newarray .int) 2 26 := by decide +kernel
theorem dSI_26 : Dc cq41 26 (.astore 5) 2 28 := by decide +kernel
theorem dSI_28 : Dc cq41 28 (.aload_n 0) 1 29 := by decide +kernel
theorem dSI_29 : Dc cq41 29 (.iconst 0) 1 30 := by decide +kernel
theorem dSI_30 : Dc cq41 30 (.aload 5) 2 32 := by decide +kernel
theorem dSI_32 : Dc cq41 32 (.iconst 0) 1 33 := by decide +kernel
theorem dSI_33 : Dc cq41 33 (.iload 4) 2 35 := by decide +kernel
theorem dSI_35 : Dc cq41 35 (.invokestatic 388) 3 38 := by decide +kernel
theorem wd110 {Z a0} (hw : Hw Z a0) : (Cond.methodLink "java/math/BigInteger" 388 ⟨"java/lang/System", "arraycopy", "(Ljava/lang/Object;ILjava/lang/Object;II)V"⟩).before a0 Z = true := hw _ (mg 110 rfl)
theorem dSI_38 : Db cq41 38 (.goto 114) 114 41 152 := by decide +kernel
theorem dSI_152 : Dc cq41 152 (.aload 5) 2 154 := by decide +kernel
theorem dSI_154 : Dc cq41 154 .areturn 1 155 := by decide +kernel
theorem dSI_41 : Dc cq41 41 (.iconst 0) 1 42 := by decide +kernel
theorem dSI_42 : Dc cq41 42 (.istore 6) 2 44 := by decide +kernel
theorem dSI_44 : Dc cq41 44 (.bipush 32) 2 46 := by decide +kernel
theorem dSI_46 : Dc cq41 46 (.iload_n 3) 1 47 := by decide +kernel
theorem dSI_47 : Dc cq41 47 .isub 1 48 := by decide +kernel
theorem dSI_48 : Dc cq41 48 (.istore 7) 2 50 := by decide +kernel
theorem dSI_50 : Dc cq41 50 (.aload_n 0) 1 51 := by decide +kernel
theorem dSI_51 : Dc cq41 51 (.iconst 0) 1 52 := by decide +kernel
theorem dSI_52 : Dc cq41 52 .iaload 1 53 := by decide +kernel
theorem dSI_53 : Dc cq41 53 (.iload 7) 2 55 := by decide +kernel
theorem dSI_55 : Dc cq41 55 .iushr 1 56 := by decide +kernel
theorem dSI_56 : Dc cq41 56 (.istore 8) 2 58 := by decide +kernel
theorem dSI_58 : Dc cq41 58 (.iload 8) 2 60 := by decide +kernel
theorem dSI_60 : Db cq41 60 (.ifCond .eq 26) 26 63 86 := by decide +kernel
theorem dSI_86 : Dc cq41 86 (.iload 4) 2 88 := by decide +kernel
theorem dSI_88 : Dc cq41 88 (.iload_n 2) 1 89 := by decide +kernel
theorem dSI_89 : Dc cq41 89 .iadd 1 90 := by decide +kernel
theorem dSI_90 : Dc cq41 90 (.newarray .int) 2 92 := by decide +kernel
theorem dSI_92 : Dc cq41 92 (.astore 5) 2 94 := by decide +kernel
theorem dSI_94 : Dc cq41 94 (.iload 4) 2 96 := by decide +kernel
theorem dSI_96 : Dc cq41 96 (.iconst 1) 1 97 := by decide +kernel
theorem dSI_97 : Dc cq41 97 .isub 1 98 := by decide +kernel
theorem dSI_98 : Dc cq41 98 (.istore 9) 2 100 := by decide +kernel
theorem dSI_100 : Dc cq41 100 (.iconst 0) 1 101 := by decide +kernel
theorem dSI_101 : Dc cq41 101 (.iload 9) 2 103 := by decide +kernel
theorem dSI_103 : Dc cq41 103 (.iconst 1) 1 104 := by decide +kernel
theorem dSI_104 : Dc cq41 104 .iadd 1 105 := by decide +kernel
theorem dSI_105 : Dc cq41 105 (.aload_n 0) 1 106 := by decide +kernel
theorem dSI_106 : Dc cq41 106 .arraylength 1 107 := by decide +kernel
theorem dSI_107 : Dc cq41 107 (.invokestatic 611) 3 110 := by decide +kernel
theorem wd239 {Z a0} (hw : Hw Z a0) : (Cond.initialized "java/util/Objects").before a0 Z = true := hw _ (mg 239 rfl)
theorem pd_14 : parseMethodDescriptor "(III)I" = some ⟨[.int, .int, .int], some .int⟩ := by decide +kernel
theorem wd237 {Z a0} (hw : Hw Z a0) : (Cond.methodLink "java/math/BigInteger" 611 ⟨"java/util/Objects", "checkFromToIndex", "(III)I"⟩).before a0 Z = true := hw _ (mg 237 rfl)
theorem wd238 {Z a0} (hw : Hw Z a0) : (Cond.static ⟨"java/util/Objects", "checkFromToIndex", "(III)I"⟩).before a0 Z = true := hw _ (mg 238 rfl)
theorem wd240 {Z a0} (hw : Hw Z a0) : (Cond.code ⟨"java/util/Objects", "checkFromToIndex", "(III)I"⟩ jdk_31_method_18_code 3 (Option.some .int)).before a0 Z = true := hw _ (mg 240 rfl)
theorem dSI_110 : Dc cq41 110 .pop 1 111 := by decide +kernel
theorem dSI_111 : Dc cq41 111 (.iload 6) 2 113 := by decide +kernel
theorem dSI_113 : Dc cq41 113 (.iload 9) 2 115 := by decide +kernel
theorem dSI_115 : Dc cq41 115 (.iload 6) 2 117 := by decide +kernel
theorem dSI_117 : Dc cq41 117 .iadd 1 118 := by decide +kernel
theorem dSI_118 : Dc cq41 118 (.iconst 1) 1 119 := by decide +kernel
theorem dSI_119 : Dc cq41 119 .iadd 1 120 := by decide +kernel
theorem dSI_120 : Dc cq41 120 (.aload 5) 2 122 := by decide +kernel
theorem dSI_122 : Dc cq41 122 .arraylength 1 123 := by decide +kernel
theorem dSI_123 : Dc cq41 123 (.invokestatic 611) 3 126 := by decide +kernel
theorem dSI_126 : Dc cq41 126 .pop 1 127 := by decide +kernel
theorem dSI_127 : Dc cq41 127 (.aload 5) 2 129 := by decide +kernel
theorem dSI_129 : Dc cq41 129 (.aload_n 0) 1 130 := by decide +kernel
theorem dSI_130 : Dc cq41 130 (.iload 6) 2 132 := by decide +kernel
theorem dSI_132 : Dc cq41 132 (.iload_n 3) 1 133 := by decide +kernel
theorem dSI_133 : Dc cq41 133 (.iload 9) 2 135 := by decide +kernel
theorem dSI_135 : Dc cq41 135 (.invokestatic 618) 3 138 := by decide +kernel
theorem pd_15 : parseMethodDescriptor "([I[IIII)V" = some ⟨[(.array .int), (.array .int), .int, .int, .int], none⟩ := by decide +kernel
theorem wd245 {Z a0} (hw : Hw Z a0) : (Cond.methodLink "java/math/BigInteger" 618 ⟨"java/math/BigInteger", "shiftLeftImplWorker", "([I[IIII)V"⟩).before a0 Z = true := hw _ (mg 245 rfl)
theorem wd246 {Z a0} (hw : Hw Z a0) : (Cond.static ⟨"java/math/BigInteger", "shiftLeftImplWorker", "([I[IIII)V"⟩).before a0 Z = true := hw _ (mg 246 rfl)
theorem wd247 {Z a0} (hw : Hw Z a0) : (Cond.code ⟨"java/math/BigInteger", "shiftLeftImplWorker", "([I[IIII)V"⟩ jdk_2097_method_103_code 7 (Option.none : Option Jvm.ClassFile.FieldType)).before a0 Z = true := hw _ (mg 247 rfl)
theorem dSI_138 : Dc cq41 138 (.aload 5) 2 140 := by decide +kernel
theorem dSI_140 : Dc cq41 140 (.iload 9) 2 142 := by decide +kernel
theorem dSI_142 : Dc cq41 142 (.iload 6) 2 144 := by decide +kernel
theorem dSI_144 : Dc cq41 144 .iadd 1 145 := by decide +kernel
theorem dSI_145 : Dc cq41 145 (.aload_n 0) 1 146 := by decide +kernel
theorem dSI_146 : Dc cq41 146 (.iload 9) 2 148 := by decide +kernel
theorem dSI_148 : Dc cq41 148 .iaload 1 149 := by decide +kernel
theorem dSI_149 : Dc cq41 149 (.iload_n 3) 1 150 := by decide +kernel
theorem dSI_150 : Dc cq41 150 .ishl 1 151 := by decide +kernel
theorem dSI_151 : Dc cq41 151 .iastore 1 152 := by decide +kernel
theorem efSI (m : MethodId) (x0 : Addr) (x1 : Int32) : entryFrame m #[.ref x0, .int x1] 10 = mkF m 0 #[.val (.ref x0), .val (.int x1), .unset, .unset, .unset, .unset, .unset, .unset, .unset, .unset] [] := by first | (simp [entryFrame, mkF, argsToLocals, Value.category]; done) | rfl
theorem pnSI : plainFor (⟨"java/math/BigInteger", "shiftLeft", "([II)[I"⟩ : MethodName) = true := plainFor_of_name (by first | (simp [plainName, overriddenIn]; done) | decide +kernel)
theorem dSL_0 : Dc cq42 0 (.aload_n 0) 1 1 := by decide +kernel
theorem dSL_1 : Dc cq42 1 (.getfield 32) 3 4 := by decide +kernel
theorem dSL_4 : Db cq42 4 (.ifCond .ne 7) 7 7 11 := by decide +kernel
theorem dSL_11 : Dc cq42 11 (.iload_n 1) 1 12 := by decide +kernel
theorem dSL_12 : Db cq42 12 (.ifCond .le 23) 23 15 35 := by decide +kernel
theorem dSL_15 : Dc cq42 15 (.new 23) 3 18 := by decide +kernel
theorem dSL_18 : Dc cq42 18 .dup 1 19 := by decide +kernel
theorem dSL_19 : Dc cq42 19 (.aload_n 0) 1 20 := by decide +kernel
theorem dSL_20 : Dc cq42 20 (.getfield 28) 3 23 := by decide +kernel
theorem dSL_23 : Dc cq42 23 (.iload_n 1) 1 24 := by decide +kernel
theorem dSL_24 : Dc cq42 24 (.invokestatic 429) 3 27 := by decide +kernel
theorem pd_16 : parseMethodDescriptor "([II)[I" = some ⟨[(.array .int), .int], some (.array .int)⟩ := by decide +kernel
theorem wd106 {Z a0} (hw : Hw Z a0) : (Cond.methodLink "java/math/BigInteger" 429 ⟨"java/math/BigInteger", "shiftLeft", "([II)[I"⟩).before a0 Z = true := hw _ (mg 106 rfl)
theorem wd107 {Z a0} (hw : Hw Z a0) : (Cond.static ⟨"java/math/BigInteger", "shiftLeft", "([II)[I"⟩).before a0 Z = true := hw _ (mg 107 rfl)
theorem wd108 {Z a0} (hw : Hw Z a0) : (Cond.code ⟨"java/math/BigInteger", "shiftLeft", "([II)[I"⟩ jdk_2097_method_102_code 10 (Option.some (.array .int))).before a0 Z = true := hw _ (mg 108 rfl)
theorem dSL_27 : Dc cq42 27 (.aload_n 0) 1 28 := by decide +kernel
theorem dSL_28 : Dc cq42 28 (.getfield 32) 3 31 := by decide +kernel
theorem dSL_31 : Dc cq42 31 (.invokespecial 175) 3 34 := by decide +kernel
theorem wd114 {Z a0} (hw : Hw Z a0) : (Cond.methodLink "java/math/BigInteger" 175 ⟨"java/math/BigInteger", "<init>", "([II)V"⟩).before a0 Z = true := hw _ (mg 114 rfl)
theorem dSL_34 : Dc cq42 34 .areturn 1 35 := by decide +kernel
theorem efSL (m : MethodId) (x0 : Addr) (x1 : Int32) : entryFrame m #[.ref x0, .int x1] 2 = mkF m 0 #[.val (.ref x0), .val (.int x1)] [] := by first | (simp [entryFrame, mkF, argsToLocals, Value.category]; done) | rfl
theorem pnSL : plainFor (⟨"java/math/BigInteger", "shiftLeft", "(I)Ljava/math/BigInteger;"⟩ : MethodName) = true := plainFor_of_name (by first | (simp [plainName, overriddenIn]; done) | decide +kernel)
theorem dAI_0 : Dc cq43 0 (.aload_n 0) 1 1 := by decide +kernel
theorem dAI_1 : Dc cq43 1 .arraylength 1 2 := by decide +kernel
theorem dAI_2 : Dc cq43 2 (.aload_n 1) 1 3 := by decide +kernel
theorem dAI_3 : Dc cq43 3 .arraylength 1 4 := by decide +kernel
theorem dAI_4 : Db cq43 4 (.if_icmp .ge 9) 9 7 13 := by decide +kernel
theorem dAI_13 : Dc cq43 13 (.aload_n 0) 1 14 := by decide +kernel
theorem dAI_14 : Dc cq43 14 .arraylength 1 15 := by decide +kernel
theorem dAI_15 : Dc cq43 15 (.istore_n 2) 1 16 := by decide +kernel
theorem dAI_16 : Dc cq43 16 (.aload_n 1) 1 17 := by decide +kernel
theorem dAI_17 : Dc cq43 17 .arraylength 1 18 := by decide +kernel
theorem dAI_18 : Dc cq43 18 (.istore_n 3) 1 19 := by decide +kernel
theorem dAI_19 : Dc cq43 19 (.iload_n 2) 1 20 := by decide +kernel
theorem dAI_20 : Dc cq43 20 (.newarray .int) 2 22 := by decide +kernel
theorem dAI_22 : Dc cq43 22 (.astore 4) 2 24 := by decide +kernel
theorem dAI_24 : Dc cq43 24 (.lconst 0) 1 25 := by decide +kernel
theorem dAI_25 : Dc cq43 25 (.lstore 5) 2 27 := by decide +kernel
theorem dAI_27 : Dc cq43 27 (.iload_n 3) 1 28 := by decide +kernel
theorem dAI_28 : Dc cq43 28 (.iconst 1) 1 29 := by decide +kernel
theorem dAI_29 : Db cq43 29 (.if_icmp .ne 35) 35 32 64 := by decide +kernel
theorem dAI_32 : Dc cq43 32 (.aload_n 0) 1 33 := by decide +kernel
theorem dAI_33 : Dc cq43 33 (.iinc 2 (-1)) 3 36 := by decide +kernel
theorem dAI_36 : Dc cq43 36 (.iload_n 2) 1 37 := by decide +kernel
theorem dAI_37 : Dc cq43 37 .iaload 1 38 := by decide +kernel
theorem dAI_38 : Dc cq43 38 .i2l 1 39 := by decide +kernel
theorem dAI_39 : Dc cq43 39 (.ldc2_w 130) 3 42 := by decide +kernel
theorem dAI_42 : Dc cq43 42 .land 1 43 := by decide +kernel
theorem dAI_43 : Dc cq43 43 (.aload_n 1) 1 44 := by decide +kernel
theorem dAI_44 : Dc cq43 44 (.iconst 0) 1 45 := by decide +kernel
theorem dAI_45 : Dc cq43 45 .iaload 1 46 := by decide +kernel
theorem dAI_46 : Dc cq43 46 .i2l 1 47 := by decide +kernel
theorem dAI_47 : Dc cq43 47 (.ldc2_w 130) 3 50 := by decide +kernel
theorem dAI_50 : Dc cq43 50 .land 1 51 := by decide +kernel
theorem dAI_51 : Dc cq43 51 .ladd 1 52 := by decide +kernel
theorem dAI_52 : Dc cq43 52 (.lstore 5) 2 54 := by decide +kernel
theorem dAI_54 : Dc cq43 54 (.aload 4) 2 56 := by decide +kernel
theorem dAI_56 : Dc cq43 56 (.iload_n 2) 1 57 := by decide +kernel
theorem dAI_57 : Dc cq43 57 (.lload 5) 2 59 := by decide +kernel
theorem dAI_59 : Dc cq43 59 .l2i 1 60 := by decide +kernel
theorem dAI_60 : Dc cq43 60 .iastore 1 61 := by decide +kernel
theorem dAI_61 : Db cq43 61 (.goto 48) 48 64 109 := by decide +kernel
theorem dAI_109 : Dc cq43 109 (.lload 5) 2 111 := by decide +kernel
theorem dAI_111 : Dc cq43 111 (.bipush 32) 2 113 := by decide +kernel
theorem dAI_113 : Dc cq43 113 .lushr 1 114 := by decide +kernel
theorem dAI_114 : Dc cq43 114 (.lconst 0) 1 115 := by decide +kernel
theorem dAI_115 : Dc cq43 115 .lcmp 1 116 := by decide +kernel
theorem dAI_116 : Db cq43 116 (.ifCond .eq 7) 7 119 123 := by decide +kernel
theorem dAI_123 : Dc cq43 123 (.iconst 0) 1 124 := by decide +kernel
theorem dAI_124 : Dc cq43 124 (.istore 7) 2 126 := by decide +kernel
theorem dAI_126 : Dc cq43 126 (.iload_n 2) 1 127 := by decide +kernel
theorem dAI_127 : Db cq43 127 (.ifCond .le 34) 34 130 161 := by decide +kernel
theorem dAI_130 : Dc cq43 130 (.iload 7) 2 132 := by decide +kernel
theorem dAI_132 : Db cq43 132 (.ifCond .eq 29) 29 135 161 := by decide +kernel
theorem dAI_161 : Dc cq43 161 (.iload_n 2) 1 162 := by decide +kernel
theorem dAI_162 : Db cq43 162 (.ifCond .le 16) 16 165 178 := by decide +kernel
theorem dAI_165 : Dc cq43 165 (.aload 4) 2 167 := by decide +kernel
theorem dAI_167 : Dc cq43 167 (.iinc 2 (-1)) 3 170 := by decide +kernel
theorem dAI_170 : Dc cq43 170 (.iload_n 2) 1 171 := by decide +kernel
theorem dAI_171 : Dc cq43 171 (.aload_n 0) 1 172 := by decide +kernel
theorem dAI_172 : Dc cq43 172 (.iload_n 2) 1 173 := by decide +kernel
theorem dAI_173 : Dc cq43 173 .iaload 1 174 := by decide +kernel
theorem dAI_174 : Dc cq43 174 .iastore 1 175 := by decide +kernel
theorem dAI_175 : Db cq43 175 (.goto (-14)) (-14) 178 161 := by decide +kernel
theorem dAI_178 : Dc cq43 178 (.iload 7) 2 180 := by decide +kernel
theorem dAI_180 : Db cq43 180 (.ifCond .eq 32) 32 183 212 := by decide +kernel
theorem dAI_212 : Dc cq43 212 (.aload 4) 2 214 := by decide +kernel
theorem dAI_214 : Dc cq43 214 .areturn 1 215 := by decide +kernel
theorem dAI_64 : Dc cq43 64 (.iload_n 3) 1 65 := by decide +kernel
theorem dAI_65 : Db cq43 65 (.ifCond .le 44) 44 68 109 := by decide +kernel
theorem dAI_68 : Dc cq43 68 (.aload_n 0) 1 69 := by decide +kernel
theorem dAI_69 : Dc cq43 69 (.iinc 2 (-1)) 3 72 := by decide +kernel
theorem dAI_72 : Dc cq43 72 (.iload_n 2) 1 73 := by decide +kernel
theorem dAI_73 : Dc cq43 73 .iaload 1 74 := by decide +kernel
theorem dAI_74 : Dc cq43 74 .i2l 1 75 := by decide +kernel
theorem dAI_75 : Dc cq43 75 (.ldc2_w 130) 3 78 := by decide +kernel
theorem dAI_78 : Dc cq43 78 .land 1 79 := by decide +kernel
theorem dAI_79 : Dc cq43 79 (.aload_n 1) 1 80 := by decide +kernel
theorem dAI_80 : Dc cq43 80 (.iinc 3 (-1)) 3 83 := by decide +kernel
theorem dAI_83 : Dc cq43 83 (.iload_n 3) 1 84 := by decide +kernel
theorem dAI_84 : Dc cq43 84 .iaload 1 85 := by decide +kernel
theorem dAI_85 : Dc cq43 85 .i2l 1 86 := by decide +kernel
theorem dAI_86 : Dc cq43 86 (.ldc2_w 130) 3 89 := by decide +kernel
theorem dAI_89 : Dc cq43 89 .land 1 90 := by decide +kernel
theorem dAI_90 : Dc cq43 90 .ladd 1 91 := by decide +kernel
theorem dAI_91 : Dc cq43 91 (.lload 5) 2 93 := by decide +kernel
theorem dAI_93 : Dc cq43 93 (.bipush 32) 2 95 := by decide +kernel
theorem dAI_95 : Dc cq43 95 .lushr 1 96 := by decide +kernel
theorem dAI_96 : Dc cq43 96 .ladd 1 97 := by decide +kernel
theorem dAI_97 : Dc cq43 97 (.lstore 5) 2 99 := by decide +kernel
theorem dAI_99 : Dc cq43 99 (.aload 4) 2 101 := by decide +kernel
theorem dAI_101 : Dc cq43 101 (.iload_n 2) 1 102 := by decide +kernel
theorem dAI_102 : Dc cq43 102 (.lload 5) 2 104 := by decide +kernel
theorem dAI_104 : Dc cq43 104 .l2i 1 105 := by decide +kernel
theorem dAI_105 : Dc cq43 105 .iastore 1 106 := by decide +kernel
theorem dAI_106 : Db cq43 106 (.goto (-42)) (-42) 109 64 := by decide +kernel
theorem efAI (m : MethodId) (x0 : Addr) (x1 : Addr) : entryFrame m #[.ref x0, .ref x1] 9 = mkF m 0 #[.val (.ref x0), .val (.ref x1), .unset, .unset, .unset, .unset, .unset, .unset, .unset] [] := by first | (simp [entryFrame, mkF, argsToLocals, Value.category]; done) | rfl
theorem pnAI : plainFor (⟨"java/math/BigInteger", "add", "([I[I)[I"⟩ : MethodName) = true := plainFor_of_name (by first | (simp [plainName, overriddenIn]; done) | decide +kernel)
theorem dAD_0 : Dc cq44 0 (.aload_n 1) 1 1 := by decide +kernel
theorem dAD_1 : Dc cq44 1 (.getfield 32) 3 4 := by decide +kernel
theorem dAD_4 : Db cq44 4 (.ifCond .ne 5) 5 7 9 := by decide +kernel
theorem dAD_9 : Dc cq44 9 (.aload_n 0) 1 10 := by decide +kernel
theorem dAD_10 : Dc cq44 10 (.getfield 32) 3 13 := by decide +kernel
theorem dAD_13 : Db cq44 13 (.ifCond .ne 5) 5 16 18 := by decide +kernel
theorem dAD_18 : Dc cq44 18 (.aload_n 1) 1 19 := by decide +kernel
theorem dAD_19 : Dc cq44 19 (.getfield 32) 3 22 := by decide +kernel
theorem dAD_22 : Dc cq44 22 (.aload_n 0) 1 23 := by decide +kernel
theorem dAD_23 : Dc cq44 23 (.getfield 32) 3 26 := by decide +kernel
theorem dAD_26 : Db cq44 26 (.if_icmp .ne 26) 26 29 52 := by decide +kernel
theorem dAD_29 : Dc cq44 29 (.new 23) 3 32 := by decide +kernel
theorem dAD_32 : Dc cq44 32 .dup 1 33 := by decide +kernel
theorem dAD_33 : Dc cq44 33 (.aload_n 0) 1 34 := by decide +kernel
theorem dAD_34 : Dc cq44 34 (.getfield 28) 3 37 := by decide +kernel
theorem dAD_37 : Dc cq44 37 (.aload_n 1) 1 38 := by decide +kernel
theorem dAD_38 : Dc cq44 38 (.getfield 28) 3 41 := by decide +kernel
theorem dAD_41 : Dc cq44 41 (.invokestatic 362) 3 44 := by decide +kernel
theorem pd_17 : parseMethodDescriptor "([I[I)[I" = some ⟨[(.array .int), (.array .int)], some (.array .int)⟩ := by decide +kernel
theorem wd136 {Z a0} (hw : Hw Z a0) : (Cond.methodLink "java/math/BigInteger" 362 ⟨"java/math/BigInteger", "add", "([I[I)[I"⟩).before a0 Z = true := hw _ (mg 136 rfl)
theorem wd137 {Z a0} (hw : Hw Z a0) : (Cond.static ⟨"java/math/BigInteger", "add", "([I[I)[I"⟩).before a0 Z = true := hw _ (mg 137 rfl)
theorem wd138 {Z a0} (hw : Hw Z a0) : (Cond.code ⟨"java/math/BigInteger", "add", "([I[I)[I"⟩ jdk_2097_method_35_code 9 (Option.some (.array .int))).before a0 Z = true := hw _ (mg 138 rfl)
theorem dAD_44 : Dc cq44 44 (.aload_n 0) 1 45 := by decide +kernel
theorem dAD_45 : Dc cq44 45 (.getfield 32) 3 48 := by decide +kernel
theorem dAD_48 : Dc cq44 48 (.invokespecial 175) 3 51 := by decide +kernel
theorem dAD_51 : Dc cq44 51 .areturn 1 52 := by decide +kernel
theorem efAD (m : MethodId) (x0 : Addr) (x1 : Addr) : entryFrame m #[.ref x0, .ref x1] 4 = mkF m 0 #[.val (.ref x0), .val (.ref x1), .unset, .unset] [] := by first | (simp [entryFrame, mkF, argsToLocals, Value.category]; done) | rfl
theorem pnAD : plainFor (⟨"java/math/BigInteger", "add", "(Ljava/math/BigInteger;)Ljava/math/BigInteger;"⟩ : MethodName) = true := plainFor_of_name (by first | (simp [plainName, overriddenIn]; done) | decide +kernel)
theorem dAZ_0 : Dc cq44 0 (.aload_n 1) 1 1 := by decide +kernel
theorem dAZ_1 : Dc cq44 1 (.getfield 32) 3 4 := by decide +kernel
theorem dAZ_4 : Db cq44 4 (.ifCond .ne 5) 5 7 9 := by decide +kernel
theorem dAZ_7 : Dc cq44 7 (.aload_n 0) 1 8 := by decide +kernel
theorem dAZ_8 : Dc cq44 8 .areturn 1 9 := by decide +kernel
theorem efAZ (m : MethodId) (x0 : Addr) (x1 : Addr) : entryFrame m #[.ref x0, .ref x1] 4 = mkF m 0 #[.val (.ref x0), .val (.ref x1), .unset, .unset] [] := by first | (simp [entryFrame, mkF, argsToLocals, Value.category]; done) | rfl
theorem pnAZ : plainFor (⟨"java/math/BigInteger", "add", "(Ljava/math/BigInteger;)Ljava/math/BigInteger;"⟩ : MethodName) = true := plainFor_of_name (by first | (simp [plainName, overriddenIn]; done) | decide +kernel)
theorem dD1_0 : Dc cq45 0 (.iload_n 1) 1 1 := by decide +kernel
theorem dD1_1 : Dc cq45 1 .i2l 1 2 := by decide +kernel
theorem dD1_2 : Dc cq45 2 (.ldc2_w 52) 3 5 := by decide +kernel
theorem dD1_5 : Dc cq45 5 .land 1 6 := by decide +kernel
theorem dD1_6 : Dc cq45 6 (.lstore_n 3) 1 7 := by decide +kernel
theorem dD1_7 : Dc cq45 7 (.aload_n 0) 1 8 := by decide +kernel
theorem dD1_8 : Dc cq45 8 (.getfield 21) 3 11 := by decide +kernel
theorem dD1_11 : Dc cq45 11 (.iconst 1) 1 12 := by decide +kernel
theorem dD1_12 : Db cq45 12 (.if_icmp .ne 67) 67 15 79 := by decide +kernel
theorem dD1_79 : Dc cq45 79 (.aload_n 2) 1 80 := by decide +kernel
theorem dD1_80 : Dc cq45 80 (.getfield 17) 3 83 := by decide +kernel
theorem dD1_83 : Dc cq45 83 .arraylength 1 84 := by decide +kernel
theorem dD1_84 : Dc cq45 84 (.aload_n 0) 1 85 := by decide +kernel
theorem dD1_85 : Dc cq45 85 (.getfield 21) 3 88 := by decide +kernel
theorem dD1_88 : Db cq45 88 (.if_icmp .ge 13) 13 91 101 := by decide +kernel
theorem dD1_91 : Dc cq45 91 (.aload_n 2) 1 92 := by decide +kernel
theorem dD1_92 : Dc cq45 92 (.aload_n 0) 1 93 := by decide +kernel
theorem dD1_93 : Dc cq45 93 (.getfield 21) 3 96 := by decide +kernel
theorem dD1_96 : Dc cq45 96 (.newarray .int) 2 98 := by decide +kernel
theorem dD1_98 : Dc cq45 98 (.putfield 17) 3 101 := by decide +kernel
theorem dD1_101 : Dc cq45 101 (.aload_n 2) 1 102 := by decide +kernel
theorem dD1_102 : Dc cq45 102 (.iconst 0) 1 103 := by decide +kernel
theorem dD1_103 : Dc cq45 103 (.putfield 11) 3 106 := by decide +kernel
theorem dD1_106 : Dc cq45 106 (.aload_n 2) 1 107 := by decide +kernel
theorem dD1_107 : Dc cq45 107 (.aload_n 0) 1 108 := by decide +kernel
theorem dD1_108 : Dc cq45 108 (.getfield 21) 3 111 := by decide +kernel
theorem dD1_111 : Dc cq45 111 (.putfield 21) 3 114 := by decide +kernel
theorem dD1_114 : Dc cq45 114 (.iload_n 1) 1 115 := by decide +kernel
theorem dD1_115 : Dc cq45 115 (.invokestatic 152) 3 118 := by decide +kernel
theorem wd188 {Z a0} (hw : Hw Z a0) : (Cond.methodLink "java/math/MutableBigInteger" 152 ⟨"java/lang/Integer", "numberOfLeadingZeros", "(I)I"⟩).before a0 Z = true := hw _ (mg 188 rfl)
theorem dD1_118 : Dc cq45 118 (.istore 5) 2 120 := by decide +kernel
theorem dD1_120 : Dc cq45 120 (.aload_n 0) 1 121 := by decide +kernel
theorem dD1_121 : Dc cq45 121 (.getfield 17) 3 124 := by decide +kernel
theorem dD1_124 : Dc cq45 124 (.aload_n 0) 1 125 := by decide +kernel
theorem dD1_125 : Dc cq45 125 (.getfield 11) 3 128 := by decide +kernel
theorem dD1_128 : Dc cq45 128 .iaload 1 129 := by decide +kernel
theorem dD1_129 : Dc cq45 129 (.istore 6) 2 131 := by decide +kernel
theorem dD1_131 : Dc cq45 131 (.iload 6) 2 133 := by decide +kernel
theorem dD1_133 : Dc cq45 133 .i2l 1 134 := by decide +kernel
theorem dD1_134 : Dc cq45 134 (.ldc2_w 52) 3 137 := by decide +kernel
theorem dD1_137 : Dc cq45 137 .land 1 138 := by decide +kernel
theorem dD1_138 : Dc cq45 138 (.lstore 7) 2 140 := by decide +kernel
theorem dD1_140 : Dc cq45 140 (.lload 7) 2 142 := by decide +kernel
theorem dD1_142 : Dc cq45 142 (.lload_n 3) 1 143 := by decide +kernel
theorem dD1_143 : Dc cq45 143 .lcmp 1 144 := by decide +kernel
theorem dD1_144 : Db cq45 144 (.ifCond .ge 13) 13 147 157 := by decide +kernel
theorem dD1_157 : Dc cq45 157 (.aload_n 2) 1 158 := by decide +kernel
theorem dD1_158 : Dc cq45 158 (.getfield 17) 3 161 := by decide +kernel
theorem dD1_161 : Dc cq45 161 (.iconst 0) 1 162 := by decide +kernel
theorem dD1_162 : Dc cq45 162 (.lload 7) 2 164 := by decide +kernel
theorem dD1_164 : Dc cq45 164 (.lload_n 3) 1 165 := by decide +kernel
theorem dD1_165 : Dc cq45 165 .ldiv 1 166 := by decide +kernel
theorem dD1_166 : Dc cq45 166 .l2i 1 167 := by decide +kernel
theorem dD1_167 : Dc cq45 167 .iastore 1 168 := by decide +kernel
theorem dD1_168 : Dc cq45 168 (.lload 7) 2 170 := by decide +kernel
theorem dD1_170 : Dc cq45 170 (.aload_n 2) 1 171 := by decide +kernel
theorem dD1_171 : Dc cq45 171 (.getfield 17) 3 174 := by decide +kernel
theorem dD1_174 : Dc cq45 174 (.iconst 0) 1 175 := by decide +kernel
theorem dD1_175 : Dc cq45 175 .iaload 1 176 := by decide +kernel
theorem dD1_176 : Dc cq45 176 .i2l 1 177 := by decide +kernel
theorem dD1_177 : Dc cq45 177 (.lload_n 3) 1 178 := by decide +kernel
theorem dD1_178 : Dc cq45 178 .lmul 1 179 := by decide +kernel
theorem dD1_179 : Dc cq45 179 .lsub 1 180 := by decide +kernel
theorem dD1_180 : Dc cq45 180 .l2i 1 181 := by decide +kernel
theorem dD1_181 : Dc cq45 181 (.istore 6) 2 183 := by decide +kernel
theorem dD1_183 : Dc cq45 183 (.iload 6) 2 185 := by decide +kernel
theorem dD1_185 : Dc cq45 185 .i2l 1 186 := by decide +kernel
theorem dD1_186 : Dc cq45 186 (.ldc2_w 52) 3 189 := by decide +kernel
theorem dD1_189 : Dc cq45 189 .land 1 190 := by decide +kernel
theorem dD1_190 : Dc cq45 190 (.lstore 7) 2 192 := by decide +kernel
theorem dD1_192 : Dc cq45 192 (.aload_n 0) 1 193 := by decide +kernel
theorem dD1_193 : Dc cq45 193 (.getfield 21) 3 196 := by decide +kernel
theorem dD1_196 : Dc cq45 196 (.istore 9) 2 198 := by decide +kernel
theorem dD1_198 : Dc cq45 198 (.iinc 9 (-1)) 3 201 := by decide +kernel
theorem dD1_201 : Dc cq45 201 (.iload 9) 2 203 := by decide +kernel
theorem dD1_203 : Db cq45 203 (.ifCond .le 112) 112 206 315 := by decide +kernel
theorem dD1_206 : Dc cq45 206 (.lload 7) 2 208 := by decide +kernel
theorem dD1_208 : Dc cq45 208 (.bipush 32) 2 210 := by decide +kernel
theorem dD1_210 : Dc cq45 210 .lshl 1 211 := by decide +kernel
theorem dD1_211 : Dc cq45 211 (.aload_n 0) 1 212 := by decide +kernel
theorem dD1_212 : Dc cq45 212 (.getfield 17) 3 215 := by decide +kernel
theorem dD1_215 : Dc cq45 215 (.aload_n 0) 1 216 := by decide +kernel
theorem dD1_216 : Dc cq45 216 (.getfield 11) 3 219 := by decide +kernel
theorem dD1_219 : Dc cq45 219 (.aload_n 0) 1 220 := by decide +kernel
theorem dD1_220 : Dc cq45 220 (.getfield 21) 3 223 := by decide +kernel
theorem dD1_223 : Dc cq45 223 .iadd 1 224 := by decide +kernel
theorem dD1_224 : Dc cq45 224 (.iload 9) 2 226 := by decide +kernel
theorem dD1_226 : Dc cq45 226 .isub 1 227 := by decide +kernel
theorem dD1_227 : Dc cq45 227 .iaload 1 228 := by decide +kernel
theorem dD1_228 : Dc cq45 228 .i2l 1 229 := by decide +kernel
theorem dD1_229 : Dc cq45 229 (.ldc2_w 52) 3 232 := by decide +kernel
theorem dD1_232 : Dc cq45 232 .land 1 233 := by decide +kernel
theorem dD1_233 : Dc cq45 233 .lor 1 234 := by decide +kernel
theorem dD1_234 : Dc cq45 234 (.lstore 10) 2 236 := by decide +kernel
theorem dD1_236 : Dc cq45 236 (.lload 10) 2 238 := by decide +kernel
theorem dD1_238 : Dc cq45 238 (.lconst 0) 1 239 := by decide +kernel
theorem dD1_239 : Dc cq45 239 .lcmp 1 240 := by decide +kernel
theorem dD1_240 : Db cq45 240 (.ifCond .lt 24) 24 243 264 := by decide +kernel
theorem dD1_243 : Dc cq45 243 (.lload 10) 2 245 := by decide +kernel
theorem dD1_245 : Dc cq45 245 (.lload_n 3) 1 246 := by decide +kernel
theorem dD1_246 : Dc cq45 246 .ldiv 1 247 := by decide +kernel
theorem dD1_247 : Dc cq45 247 .l2i 1 248 := by decide +kernel
theorem dD1_248 : Dc cq45 248 (.istore 12) 2 250 := by decide +kernel
theorem dD1_250 : Dc cq45 250 (.lload 10) 2 252 := by decide +kernel
theorem dD1_252 : Dc cq45 252 (.iload 12) 2 254 := by decide +kernel
theorem dD1_254 : Dc cq45 254 .i2l 1 255 := by decide +kernel
theorem dD1_255 : Dc cq45 255 (.lload_n 3) 1 256 := by decide +kernel
theorem dD1_256 : Dc cq45 256 .lmul 1 257 := by decide +kernel
theorem dD1_257 : Dc cq45 257 .lsub 1 258 := by decide +kernel
theorem dD1_258 : Dc cq45 258 .l2i 1 259 := by decide +kernel
theorem dD1_259 : Dc cq45 259 (.istore 6) 2 261 := by decide +kernel
theorem dD1_261 : Db cq45 261 (.goto 28) 28 264 289 := by decide +kernel
theorem dD1_289 : Dc cq45 289 (.aload_n 2) 1 290 := by decide +kernel
theorem dD1_290 : Dc cq45 290 (.getfield 17) 3 293 := by decide +kernel
theorem dD1_293 : Dc cq45 293 (.aload_n 0) 1 294 := by decide +kernel
theorem dD1_294 : Dc cq45 294 (.getfield 21) 3 297 := by decide +kernel
theorem dD1_297 : Dc cq45 297 (.iload 9) 2 299 := by decide +kernel
theorem dD1_299 : Dc cq45 299 .isub 1 300 := by decide +kernel
theorem dD1_300 : Dc cq45 300 (.iload 12) 2 302 := by decide +kernel
theorem dD1_302 : Dc cq45 302 .iastore 1 303 := by decide +kernel
theorem dD1_303 : Dc cq45 303 (.iload 6) 2 305 := by decide +kernel
theorem dD1_305 : Dc cq45 305 .i2l 1 306 := by decide +kernel
theorem dD1_306 : Dc cq45 306 (.ldc2_w 52) 3 309 := by decide +kernel
theorem dD1_309 : Dc cq45 309 .land 1 310 := by decide +kernel
theorem dD1_310 : Dc cq45 310 (.lstore 7) 2 312 := by decide +kernel
theorem dD1_312 : Db cq45 312 (.goto (-114)) (-114) 315 198 := by decide +kernel
theorem dD1_315 : Dc cq45 315 (.aload_n 2) 1 316 := by decide +kernel
theorem dD1_316 : Dc cq45 316 (.invokevirtual 64) 3 319 := by decide +kernel
theorem wd189 {Z a0} (hw : Hw Z a0) : (Cond.methodLink "java/math/MutableBigInteger" 64 ⟨"java/math/MutableBigInteger", "normalize", "()V"⟩).before a0 Z = true := hw _ (mg 189 rfl)
theorem wd190 {Z a0} (hw : Hw Z a0) : (Cond.declares ⟨"java/math/MutableBigInteger", "normalize", "()V"⟩).before a0 Z = true := hw _ (mg 190 rfl)
theorem wd192 {Z a0} (hw : Hw Z a0) : (Cond.selects "java/math/MutableBigInteger" ⟨"java/math/MutableBigInteger", "normalize", "()V"⟩ ⟨"java/math/MutableBigInteger", "normalize", "()V"⟩).before a0 Z = true := hw _ (mg 192 rfl)
theorem wd191 {Z a0} (hw : Hw Z a0) : (Cond.instanceMethod ⟨"java/math/MutableBigInteger", "normalize", "()V"⟩).before a0 Z = true := hw _ (mg 191 rfl)
theorem wd193 {Z a0} (hw : Hw Z a0) : (Cond.code ⟨"java/math/MutableBigInteger", "normalize", "()V"⟩ jdk_2101_method_21_code 4 (Option.none : Option Jvm.ClassFile.FieldType)).before a0 Z = true := hw _ (mg 193 rfl)
theorem dD1_319 : Dc cq45 319 (.iload 5) 2 321 := by decide +kernel
theorem dD1_321 : Db cq45 321 (.ifCond .le 8) 8 324 329 := by decide +kernel
theorem dD1_324 : Dc cq45 324 (.iload 6) 2 326 := by decide +kernel
theorem dD1_326 : Dc cq45 326 (.iload_n 1) 1 327 := by decide +kernel
theorem dD1_327 : Dc cq45 327 .irem 1 328 := by decide +kernel
theorem dD1_328 : Dc cq45 328 .ireturn 1 329 := by decide +kernel
theorem dD1_329 : Dc cq45 329 (.iload 6) 2 331 := by decide +kernel
theorem dD1_331 : Dc cq45 331 .ireturn 1 332 := by decide +kernel
theorem dD1_147 : Dc cq45 147 (.aload_n 2) 1 148 := by decide +kernel
theorem dD1_148 : Dc cq45 148 (.getfield 17) 3 151 := by decide +kernel
theorem dD1_151 : Dc cq45 151 (.iconst 0) 1 152 := by decide +kernel
theorem dD1_152 : Dc cq45 152 (.iconst 0) 1 153 := by decide +kernel
theorem dD1_153 : Dc cq45 153 .iastore 1 154 := by decide +kernel
theorem dD1_154 : Db cq45 154 (.goto 38) 38 157 192 := by decide +kernel
theorem dD1_264 : Dc cq45 264 (.lload 10) 2 266 := by decide +kernel
theorem dD1_266 : Dc cq45 266 (.iload_n 1) 1 267 := by decide +kernel
theorem dD1_267 : Dc cq45 267 (.invokestatic 155) 3 270 := by decide +kernel
theorem pd_18 : parseMethodDescriptor "(JI)J" = some ⟨[.long, .int], some .long⟩ := by decide +kernel
theorem wd262 {Z a0} (hw : Hw Z a0) : (Cond.methodLink "java/math/MutableBigInteger" 155 ⟨"java/math/MutableBigInteger", "divWord", "(JI)J"⟩).before a0 Z = true := hw _ (mg 262 rfl)
theorem wd263 {Z a0} (hw : Hw Z a0) : (Cond.static ⟨"java/math/MutableBigInteger", "divWord", "(JI)J"⟩).before a0 Z = true := hw _ (mg 263 rfl)
theorem wd264 {Z a0} (hw : Hw Z a0) : (Cond.code ⟨"java/math/MutableBigInteger", "divWord", "(JI)J"⟩ jdk_2101_method_70_code 9 (Option.some .long)).before a0 Z = true := hw _ (mg 264 rfl)
theorem dD1_270 : Dc cq45 270 (.lstore 13) 2 272 := by decide +kernel
theorem dD1_272 : Dc cq45 272 (.lload 13) 2 274 := by decide +kernel
theorem dD1_274 : Dc cq45 274 (.ldc2_w 52) 3 277 := by decide +kernel
theorem dD1_277 : Dc cq45 277 .land 1 278 := by decide +kernel
theorem dD1_278 : Dc cq45 278 .l2i 1 279 := by decide +kernel
theorem dD1_279 : Dc cq45 279 (.istore 12) 2 281 := by decide +kernel
theorem dD1_281 : Dc cq45 281 (.lload 13) 2 283 := by decide +kernel
theorem dD1_283 : Dc cq45 283 (.bipush 32) 2 285 := by decide +kernel
theorem dD1_285 : Dc cq45 285 .lushr 1 286 := by decide +kernel
theorem dD1_286 : Dc cq45 286 .l2i 1 287 := by decide +kernel
theorem dD1_287 : Dc cq45 287 (.istore 6) 2 289 := by decide +kernel
theorem efD1 (m : MethodId) (x0 : Addr) (x1 : Int32) (x2 : Addr) : entryFrame m #[.ref x0, .int x1, .ref x2] 15 = mkF m 0 #[.val (.ref x0), .val (.int x1), .val (.ref x2), .unset, .unset, .unset, .unset, .unset, .unset, .unset, .unset, .unset, .unset, .unset, .unset] [] := by first | (simp [entryFrame, mkF, argsToLocals, Value.category]; done) | rfl
theorem pnD1 : plainFor (⟨"java/math/MutableBigInteger", "divideOneWord", "(ILjava/math/MutableBigInteger;)I"⟩ : MethodName) = true := plainFor_of_name (by first | (simp [plainName, overriddenIn]; done) | decide +kernel)
theorem dDM_423 : Dc cq46 423 (.iload 15) 2 425 := by decide +kernel
theorem dDM_425 : Dc cq46 425 (.iload 9) 2 427 := by decide +kernel
theorem dDM_427 : Dc cq46 427 (.iconst 1) 1 428 := by decide +kernel
theorem dDM_428 : Dc cq46 428 .isub 1 429 := by decide +kernel
theorem dDM_429 : Db cq46 429 (.if_icmp .ge 399) 399 432 828 := by decide +kernel
theorem dDM_828 : Dc cq46 828 (.iconst 0) 1 829 := by decide +kernel
theorem dDM_829 : Dc cq46 829 (.istore 15) 2 831 := by decide +kernel
theorem dDM_831 : Dc cq46 831 (.iconst 0) 1 832 := by decide +kernel
theorem dDM_832 : Dc cq46 832 (.istore 16) 2 834 := by decide +kernel
theorem dDM_834 : Dc cq46 834 (.iconst 0) 1 835 := by decide +kernel
theorem dDM_835 : Dc cq46 835 (.istore 17) 2 837 := by decide +kernel
theorem dDM_837 : Dc cq46 837 (.aload 7) 2 839 := by decide +kernel
theorem dDM_839 : Dc cq46 839 (.getfield 17) 3 842 := by decide +kernel
theorem dDM_842 : Dc cq46 842 (.iload 9) 2 844 := by decide +kernel
theorem dDM_844 : Dc cq46 844 (.iconst 1) 1 845 := by decide +kernel
theorem dDM_845 : Dc cq46 845 .isub 1 846 := by decide +kernel
theorem dDM_846 : Dc cq46 846 (.aload 7) 2 848 := by decide +kernel
theorem dDM_848 : Dc cq46 848 (.getfield 11) 3 851 := by decide +kernel
theorem dDM_851 : Dc cq46 851 .iadd 1 852 := by decide +kernel
theorem dDM_852 : Dc cq46 852 .iaload 1 853 := by decide +kernel
theorem dDM_853 : Dc cq46 853 (.istore 18) 2 855 := by decide +kernel
theorem dDM_855 : Dc cq46 855 (.iload 18) 2 857 := by decide +kernel
theorem dDM_857 : Dc cq46 857 (.ldc 88) 2 859 := by decide +kernel
theorem wd261 {Z a0} (hw : Hw Z a0) : (Cond.constant "java/math/MutableBigInteger" 88 (-2147483648 : Int32)).before a0 Z = true := hw _ (mg 261 rfl)
theorem dDM_859 : Dc cq46 859 .iadd 1 860 := by decide +kernel
theorem dDM_860 : Dc cq46 860 (.istore 19) 2 862 := by decide +kernel
theorem dDM_862 : Dc cq46 862 (.aload 7) 2 864 := by decide +kernel
theorem dDM_864 : Dc cq46 864 (.getfield 17) 3 867 := by decide +kernel
theorem dDM_867 : Dc cq46 867 (.iload 9) 2 869 := by decide +kernel
theorem dDM_869 : Dc cq46 869 (.aload 7) 2 871 := by decide +kernel
theorem dDM_871 : Dc cq46 871 (.getfield 11) 3 874 := by decide +kernel
theorem dDM_874 : Dc cq46 874 .iadd 1 875 := by decide +kernel
theorem dDM_875 : Dc cq46 875 .iaload 1 876 := by decide +kernel
theorem dDM_876 : Dc cq46 876 (.istore 20) 2 878 := by decide +kernel
theorem dDM_878 : Dc cq46 878 (.iload 18) 2 880 := by decide +kernel
theorem dDM_880 : Dc cq46 880 (.iload 11) 2 882 := by decide +kernel
theorem dDM_882 : Db cq46 882 (.if_icmp .ne 33) 33 885 915 := by decide +kernel
theorem dDM_1133 : Dc cq46 1133 (.aload 7) 2 1135 := by decide +kernel
theorem dDM_1135 : Dc cq46 1135 (.getfield 17) 3 1138 := by decide +kernel
theorem dDM_1138 : Dc cq46 1138 (.iload 9) 2 1140 := by decide +kernel
theorem dDM_1140 : Dc cq46 1140 (.iconst 1) 1 1141 := by decide +kernel
theorem dDM_1141 : Dc cq46 1141 .isub 1 1142 := by decide +kernel
theorem dDM_1142 : Dc cq46 1142 (.aload 7) 2 1144 := by decide +kernel
theorem dDM_1144 : Dc cq46 1144 (.getfield 11) 3 1147 := by decide +kernel
theorem dDM_1147 : Dc cq46 1147 .iadd 1 1148 := by decide +kernel
theorem dDM_1148 : Dc cq46 1148 (.iconst 0) 1 1149 := by decide +kernel
theorem dDM_1149 : Dc cq46 1149 .iastore 1 1150 := by decide +kernel
theorem dDM_1150 : Dc cq46 1150 (.iload_n 3) 1 1151 := by decide +kernel
theorem dDM_1151 : Db cq46 1151 (.ifCond .eq 33) 33 1154 1184 := by decide +kernel
theorem dDM_1184 : Dc cq46 1184 (.aload_n 0) 1 1185 := by decide +kernel
theorem dDM_1185 : Dc cq46 1185 (.aload 7) 2 1187 := by decide +kernel
theorem dDM_1187 : Dc cq46 1187 (.getfield 17) 3 1190 := by decide +kernel
theorem dDM_1190 : Dc cq46 1190 (.aload 6) 2 1192 := by decide +kernel
theorem dDM_1192 : Dc cq46 1192 (.iload 15) 2 1194 := by decide +kernel
theorem dDM_1194 : Dc cq46 1194 (.iload 5) 2 1196 := by decide +kernel
theorem dDM_1196 : Dc cq46 1196 (.iload 9) 2 1198 := by decide +kernel
theorem dDM_1198 : Dc cq46 1198 (.iconst 1) 1 1199 := by decide +kernel
theorem dDM_1199 : Dc cq46 1199 .isub 1 1200 := by decide +kernel
theorem dDM_1200 : Dc cq46 1200 (.aload 7) 2 1202 := by decide +kernel
theorem dDM_1202 : Dc cq46 1202 (.getfield 11) 3 1205 := by decide +kernel
theorem dDM_1205 : Dc cq46 1205 .iadd 1 1206 := by decide +kernel
theorem dDM_1206 : Dc cq46 1206 (.invokevirtual 285) 3 1209 := by decide +kernel
theorem pd_19 : parseMethodDescriptor "([I[IIII)I" = some ⟨[(.array .int), (.array .int), .int, .int, .int], some .int⟩ := by decide +kernel
theorem wd276 {Z a0} (hw : Hw Z a0) : (Cond.methodLink "java/math/MutableBigInteger" 285 ⟨"java/math/MutableBigInteger", "mulsubBorrow", "([I[IIII)I"⟩).before a0 Z = true := hw _ (mg 276 rfl)
theorem wd278 {Z a0} (hw : Hw Z a0) : (Cond.privateMethod ⟨"java/math/MutableBigInteger", "mulsubBorrow", "([I[IIII)I"⟩).before a0 Z = true := hw _ (mg 278 rfl)
theorem wd279 {Z a0} (hw : Hw Z a0) : (Cond.selects "java/math/MutableBigInteger" ⟨"java/math/MutableBigInteger", "mulsubBorrow", "([I[IIII)I"⟩ ⟨"java/math/MutableBigInteger", "mulsubBorrow", "([I[IIII)I"⟩).before a0 Z = true := hw _ (mg 279 rfl)
theorem wd277 {Z a0} (hw : Hw Z a0) : (Cond.instanceMethod ⟨"java/math/MutableBigInteger", "mulsubBorrow", "([I[IIII)I"⟩).before a0 Z = true := hw _ (mg 277 rfl)
theorem wd280 {Z a0} (hw : Hw Z a0) : (Cond.code ⟨"java/math/MutableBigInteger", "mulsubBorrow", "([I[IIII)I"⟩ jdk_2101_method_40_code 15 (Option.some .int)).before a0 Z = true := hw _ (mg 280 rfl)
theorem dDM_1209 : Dc cq46 1209 (.istore 21) 2 1211 := by decide +kernel
theorem dDM_1211 : Dc cq46 1211 (.iload 21) 2 1213 := by decide +kernel
theorem dDM_1213 : Dc cq46 1213 (.ldc 88) 2 1215 := by decide +kernel
theorem dDM_1215 : Dc cq46 1215 .iadd 1 1216 := by decide +kernel
theorem dDM_1216 : Dc cq46 1216 (.iload 19) 2 1218 := by decide +kernel
theorem dDM_1218 : Db cq46 1218 (.if_icmp .le 34) 34 1221 1252 := by decide +kernel
theorem dDM_1221 : Dc cq46 1221 (.iload_n 3) 1 1222 := by decide +kernel
theorem dDM_1222 : Db cq46 1222 (.ifCond .eq 27) 27 1225 1249 := by decide +kernel
theorem dDM_1249 : Dc cq46 1249 (.iinc 15 (-1)) 3 1252 := by decide +kernel
theorem dDM_1252 : Dc cq46 1252 (.aload 10) 2 1254 := by decide +kernel
theorem dDM_1254 : Dc cq46 1254 (.iload 9) 2 1256 := by decide +kernel
theorem dDM_1256 : Dc cq46 1256 (.iconst 1) 1 1257 := by decide +kernel
theorem dDM_1257 : Dc cq46 1257 .isub 1 1258 := by decide +kernel
theorem dDM_1258 : Dc cq46 1258 (.iload 15) 2 1260 := by decide +kernel
theorem dDM_1260 : Dc cq46 1260 .iastore 1 1261 := by decide +kernel
theorem dDM_1261 : Dc cq46 1261 (.iload_n 3) 1 1262 := by decide +kernel
theorem dDM_1262 : Db cq46 1262 (.ifCond .eq 20) 20 1265 1282 := by decide +kernel
theorem dDM_1282 : Dc cq46 1282 (.aload_n 2) 1 1283 := by decide +kernel
theorem dDM_1283 : Dc cq46 1283 (.invokevirtual 64) 3 1286 := by decide +kernel
theorem dDM_1286 : Dc cq46 1286 (.iload_n 3) 1 1287 := by decide +kernel
theorem dDM_1287 : Db cq46 1287 (.ifCond .eq 8) 8 1290 1295 := by decide +kernel
theorem dDM_1295 : Dc cq46 1295 .aconst_null 1 1296 := by decide +kernel
theorem dDM_1296 : Dc cq46 1296 .areturn 1 1297 := by decide +kernel
theorem dDM_1052 : Dc cq46 1052 (.aload_n 0) 1 1053 := by decide +kernel
theorem dDM_1053 : Dc cq46 1053 (.lload 25) 2 1055 := by decide +kernel
theorem dDM_1055 : Dc cq46 1055 (.lload 23) 2 1057 := by decide +kernel
theorem dDM_1057 : Dc cq46 1057 (.invokevirtual 273) 3 1060 := by decide +kernel
theorem pd_20 : parseMethodDescriptor "(JJ)Z" = some ⟨[.long, .long], some .boolean⟩ := by decide +kernel
theorem wd265 {Z a0} (hw : Hw Z a0) : (Cond.methodLink "java/math/MutableBigInteger" 273 ⟨"java/math/MutableBigInteger", "unsignedLongCompare", "(JJ)Z"⟩).before a0 Z = true := hw _ (mg 265 rfl)
theorem wd267 {Z a0} (hw : Hw Z a0) : (Cond.privateMethod ⟨"java/math/MutableBigInteger", "unsignedLongCompare", "(JJ)Z"⟩).before a0 Z = true := hw _ (mg 267 rfl)
theorem wd268 {Z a0} (hw : Hw Z a0) : (Cond.selects "java/math/MutableBigInteger" ⟨"java/math/MutableBigInteger", "unsignedLongCompare", "(JJ)Z"⟩ ⟨"java/math/MutableBigInteger", "unsignedLongCompare", "(JJ)Z"⟩).before a0 Z = true := hw _ (mg 268 rfl)
theorem wd266 {Z a0} (hw : Hw Z a0) : (Cond.instanceMethod ⟨"java/math/MutableBigInteger", "unsignedLongCompare", "(JJ)Z"⟩).before a0 Z = true := hw _ (mg 266 rfl)
theorem wd269 {Z a0} (hw : Hw Z a0) : (Cond.code ⟨"java/math/MutableBigInteger", "unsignedLongCompare", "(JJ)Z"⟩ jdk_2101_method_69_code 5 (Option.some .boolean)).before a0 Z = true := hw _ (mg 269 rfl)
theorem dDM_1060 : Db cq46 1060 (.ifCond .eq 73) 73 1063 1133 := by decide +kernel
theorem dDM_1063 : Dc cq46 1063 (.iinc 15 (-1)) 3 1066 := by decide +kernel
theorem dDM_1066 : Dc cq46 1066 (.iload 16) 2 1068 := by decide +kernel
theorem dDM_1068 : Dc cq46 1068 .i2l 1 1069 := by decide +kernel
theorem dDM_1069 : Dc cq46 1069 (.ldc2_w 52) 3 1072 := by decide +kernel
theorem dDM_1072 : Dc cq46 1072 .land 1 1073 := by decide +kernel
theorem dDM_1073 : Dc cq46 1073 (.lload 12) 2 1075 := by decide +kernel
theorem dDM_1075 : Dc cq46 1075 .ladd 1 1076 := by decide +kernel
theorem dDM_1076 : Dc cq46 1076 .l2i 1 1077 := by decide +kernel
theorem dDM_1077 : Dc cq46 1077 (.istore 16) 2 1079 := by decide +kernel
theorem dDM_1079 : Dc cq46 1079 (.iload 16) 2 1081 := by decide +kernel
theorem dDM_1081 : Dc cq46 1081 .i2l 1 1082 := by decide +kernel
theorem dDM_1082 : Dc cq46 1082 (.ldc2_w 52) 3 1085 := by decide +kernel
theorem dDM_1085 : Dc cq46 1085 .land 1 1086 := by decide +kernel
theorem dDM_1086 : Dc cq46 1086 (.lload 12) 2 1088 := by decide +kernel
theorem dDM_1088 : Dc cq46 1088 .lcmp 1 1089 := by decide +kernel
theorem dDM_1089 : Db cq46 1089 (.ifCond .lt 44) 44 1092 1133 := by decide +kernel
theorem dDM_1092 : Dc cq46 1092 (.lload 25) 2 1094 := by decide +kernel
theorem dDM_1094 : Dc cq46 1094 (.iload 14) 2 1096 := by decide +kernel
theorem dDM_1096 : Dc cq46 1096 .i2l 1 1097 := by decide +kernel
theorem dDM_1097 : Dc cq46 1097 (.ldc2_w 52) 3 1100 := by decide +kernel
theorem dDM_1100 : Dc cq46 1100 .land 1 1101 := by decide +kernel
theorem dDM_1101 : Dc cq46 1101 .lsub 1 1102 := by decide +kernel
theorem dDM_1102 : Dc cq46 1102 (.lstore 25) 2 1104 := by decide +kernel
theorem dDM_1104 : Dc cq46 1104 (.iload 16) 2 1106 := by decide +kernel
theorem dDM_1106 : Dc cq46 1106 .i2l 1 1107 := by decide +kernel
theorem dDM_1107 : Dc cq46 1107 (.ldc2_w 52) 3 1110 := by decide +kernel
theorem dDM_1110 : Dc cq46 1110 .land 1 1111 := by decide +kernel
theorem dDM_1111 : Dc cq46 1111 (.bipush 32) 2 1113 := by decide +kernel
theorem dDM_1113 : Dc cq46 1113 .lshl 1 1114 := by decide +kernel
theorem dDM_1114 : Dc cq46 1114 (.lload 21) 2 1116 := by decide +kernel
theorem dDM_1116 : Dc cq46 1116 .lor 1 1117 := by decide +kernel
theorem dDM_1117 : Dc cq46 1117 (.lstore 23) 2 1119 := by decide +kernel
theorem dDM_1119 : Dc cq46 1119 (.aload_n 0) 1 1120 := by decide +kernel
theorem dDM_1120 : Dc cq46 1120 (.lload 25) 2 1122 := by decide +kernel
theorem dDM_1122 : Dc cq46 1122 (.lload 23) 2 1124 := by decide +kernel
theorem dDM_1124 : Dc cq46 1124 (.invokevirtual 273) 3 1127 := by decide +kernel
theorem dDM_1127 : Db cq46 1127 (.ifCond .eq 6) 6 1130 1133 := by decide +kernel
theorem dDM_1130 : Dc cq46 1130 (.iinc 15 (-1)) 3 1133 := by decide +kernel
theorem dDM_885 : Dc cq46 885 (.iconst (-1)) 1 886 := by decide +kernel
theorem dDM_886 : Dc cq46 886 (.istore 15) 2 888 := by decide +kernel
theorem dDM_888 : Dc cq46 888 (.iload 18) 2 890 := by decide +kernel
theorem dDM_890 : Dc cq46 890 (.iload 20) 2 892 := by decide +kernel
theorem dDM_892 : Dc cq46 892 .iadd 1 893 := by decide +kernel
theorem dDM_893 : Dc cq46 893 (.istore 16) 2 895 := by decide +kernel
theorem dDM_895 : Dc cq46 895 (.iload 16) 2 897 := by decide +kernel
theorem dDM_897 : Dc cq46 897 (.ldc 88) 2 899 := by decide +kernel
theorem dDM_899 : Dc cq46 899 .iadd 1 900 := by decide +kernel
theorem dDM_900 : Dc cq46 900 (.iload 19) 2 902 := by decide +kernel
theorem dDM_902 : Db cq46 902 (.if_icmp .ge 7) 7 905 909 := by decide +kernel
theorem dDM_905 : Dc cq46 905 (.iconst 1) 1 906 := by decide +kernel
theorem dDM_906 : Db cq46 906 (.goto 4) 4 909 910 := by decide +kernel
theorem dDM_909 : Dc cq46 909 (.iconst 0) 1 910 := by decide +kernel
theorem dDM_910 : Dc cq46 910 (.istore 17) 2 912 := by decide +kernel
theorem dDM_912 : Db cq46 912 (.goto 75) 75 915 987 := by decide +kernel
theorem dDM_987 : Dc cq46 987 (.iload 15) 2 989 := by decide +kernel
theorem dDM_989 : Db cq46 989 (.ifCond .eq 272) 272 992 1261 := by decide +kernel
theorem dDM_992 : Dc cq46 992 (.iload 17) 2 994 := by decide +kernel
theorem dDM_994 : Db cq46 994 (.ifCond .ne 139) 139 997 1133 := by decide +kernel
theorem dDM_997 : Dc cq46 997 (.aload 7) 2 999 := by decide +kernel
theorem dDM_999 : Dc cq46 999 (.getfield 17) 3 1002 := by decide +kernel
theorem dDM_1002 : Dc cq46 1002 (.iload 9) 2 1004 := by decide +kernel
theorem dDM_1004 : Dc cq46 1004 (.iconst 1) 1 1005 := by decide +kernel
theorem dDM_1005 : Dc cq46 1005 .iadd 1 1006 := by decide +kernel
theorem dDM_1006 : Dc cq46 1006 (.aload 7) 2 1008 := by decide +kernel
theorem dDM_1008 : Dc cq46 1008 (.getfield 11) 3 1011 := by decide +kernel
theorem dDM_1011 : Dc cq46 1011 .iadd 1 1012 := by decide +kernel
theorem dDM_1012 : Dc cq46 1012 .iaload 1 1013 := by decide +kernel
theorem dDM_1013 : Dc cq46 1013 .i2l 1 1014 := by decide +kernel
theorem dDM_1014 : Dc cq46 1014 (.ldc2_w 52) 3 1017 := by decide +kernel
theorem dDM_1017 : Dc cq46 1017 .land 1 1018 := by decide +kernel
theorem dDM_1018 : Dc cq46 1018 (.lstore 21) 2 1020 := by decide +kernel
theorem dDM_1020 : Dc cq46 1020 (.iload 16) 2 1022 := by decide +kernel
theorem dDM_1022 : Dc cq46 1022 .i2l 1 1023 := by decide +kernel
theorem dDM_1023 : Dc cq46 1023 (.ldc2_w 52) 3 1026 := by decide +kernel
theorem dDM_1026 : Dc cq46 1026 .land 1 1027 := by decide +kernel
theorem dDM_1027 : Dc cq46 1027 (.bipush 32) 2 1029 := by decide +kernel
theorem dDM_1029 : Dc cq46 1029 .lshl 1 1030 := by decide +kernel
theorem dDM_1030 : Dc cq46 1030 (.lload 21) 2 1032 := by decide +kernel
theorem dDM_1032 : Dc cq46 1032 .lor 1 1033 := by decide +kernel
theorem dDM_1033 : Dc cq46 1033 (.lstore 23) 2 1035 := by decide +kernel
theorem dDM_1035 : Dc cq46 1035 (.iload 14) 2 1037 := by decide +kernel
theorem dDM_1037 : Dc cq46 1037 .i2l 1 1038 := by decide +kernel
theorem dDM_1038 : Dc cq46 1038 (.ldc2_w 52) 3 1041 := by decide +kernel
theorem dDM_1041 : Dc cq46 1041 .land 1 1042 := by decide +kernel
theorem dDM_1042 : Dc cq46 1042 (.iload 15) 2 1044 := by decide +kernel
theorem dDM_1044 : Dc cq46 1044 .i2l 1 1045 := by decide +kernel
theorem dDM_1045 : Dc cq46 1045 (.ldc2_w 52) 3 1048 := by decide +kernel
theorem dDM_1048 : Dc cq46 1048 .land 1 1049 := by decide +kernel
theorem dDM_1049 : Dc cq46 1049 .lmul 1 1050 := by decide +kernel
theorem dDM_1050 : Dc cq46 1050 (.lstore 25) 2 1052 := by decide +kernel
theorem dDM_915 : Dc cq46 915 (.iload 18) 2 917 := by decide +kernel
theorem dDM_917 : Dc cq46 917 .i2l 1 918 := by decide +kernel
theorem dDM_918 : Dc cq46 918 (.bipush 32) 2 920 := by decide +kernel
theorem dDM_920 : Dc cq46 920 .lshl 1 921 := by decide +kernel
theorem dDM_921 : Dc cq46 921 (.iload 20) 2 923 := by decide +kernel
theorem dDM_923 : Dc cq46 923 .i2l 1 924 := by decide +kernel
theorem dDM_924 : Dc cq46 924 (.ldc2_w 52) 3 927 := by decide +kernel
theorem dDM_927 : Dc cq46 927 .land 1 928 := by decide +kernel
theorem dDM_928 : Dc cq46 928 .lor 1 929 := by decide +kernel
theorem dDM_929 : Dc cq46 929 (.lstore 21) 2 931 := by decide +kernel
theorem dDM_931 : Dc cq46 931 (.lload 21) 2 933 := by decide +kernel
theorem dDM_933 : Dc cq46 933 (.lconst 0) 1 934 := by decide +kernel
theorem dDM_934 : Dc cq46 934 .lcmp 1 935 := by decide +kernel
theorem dDM_935 : Db cq46 935 (.ifCond .lt 26) 26 938 961 := by decide +kernel
theorem dDM_961 : Dc cq46 961 (.lload 21) 2 963 := by decide +kernel
theorem dDM_963 : Dc cq46 963 (.iload 11) 2 965 := by decide +kernel
theorem dDM_965 : Dc cq46 965 (.invokestatic 155) 3 968 := by decide +kernel
theorem dDM_968 : Dc cq46 968 (.lstore 23) 2 970 := by decide +kernel
theorem dDM_970 : Dc cq46 970 (.lload 23) 2 972 := by decide +kernel
theorem dDM_972 : Dc cq46 972 (.ldc2_w 52) 3 975 := by decide +kernel
theorem dDM_975 : Dc cq46 975 .land 1 976 := by decide +kernel
theorem dDM_976 : Dc cq46 976 .l2i 1 977 := by decide +kernel
theorem dDM_977 : Dc cq46 977 (.istore 15) 2 979 := by decide +kernel
theorem dDM_979 : Dc cq46 979 (.lload 23) 2 981 := by decide +kernel
theorem dDM_981 : Dc cq46 981 (.bipush 32) 2 983 := by decide +kernel
theorem dDM_983 : Dc cq46 983 .lushr 1 984 := by decide +kernel
theorem dDM_984 : Dc cq46 984 .l2i 1 985 := by decide +kernel
theorem dDM_985 : Dc cq46 985 (.istore 16) 2 987 := by decide +kernel
theorem dDM_938 : Dc cq46 938 (.lload 21) 2 940 := by decide +kernel
theorem dDM_940 : Dc cq46 940 (.lload 12) 2 942 := by decide +kernel
theorem dDM_942 : Dc cq46 942 .ldiv 1 943 := by decide +kernel
theorem dDM_943 : Dc cq46 943 .l2i 1 944 := by decide +kernel
theorem dDM_944 : Dc cq46 944 (.istore 15) 2 946 := by decide +kernel
theorem dDM_946 : Dc cq46 946 (.lload 21) 2 948 := by decide +kernel
theorem dDM_948 : Dc cq46 948 (.iload 15) 2 950 := by decide +kernel
theorem dDM_950 : Dc cq46 950 .i2l 1 951 := by decide +kernel
theorem dDM_951 : Dc cq46 951 (.lload 12) 2 953 := by decide +kernel
theorem dDM_953 : Dc cq46 953 .lmul 1 954 := by decide +kernel
theorem dDM_954 : Dc cq46 954 .lsub 1 955 := by decide +kernel
theorem dDM_955 : Dc cq46 955 .l2i 1 956 := by decide +kernel
theorem dDM_956 : Dc cq46 956 (.istore 16) 2 958 := by decide +kernel
theorem dDM_958 : Db cq46 958 (.goto 29) 29 961 987 := by decide +kernel
theorem dDM_432 : Dc cq46 432 (.iconst 0) 1 433 := by decide +kernel
theorem dDM_433 : Dc cq46 433 (.istore 16) 2 435 := by decide +kernel
theorem dDM_435 : Dc cq46 435 (.iconst 0) 1 436 := by decide +kernel
theorem dDM_436 : Dc cq46 436 (.istore 17) 2 438 := by decide +kernel
theorem dDM_438 : Dc cq46 438 (.iconst 0) 1 439 := by decide +kernel
theorem dDM_439 : Dc cq46 439 (.istore 18) 2 441 := by decide +kernel
theorem dDM_441 : Dc cq46 441 (.aload 7) 2 443 := by decide +kernel
theorem dDM_443 : Dc cq46 443 (.getfield 17) 3 446 := by decide +kernel
theorem dDM_446 : Dc cq46 446 (.iload 15) 2 448 := by decide +kernel
theorem dDM_448 : Dc cq46 448 (.aload 7) 2 450 := by decide +kernel
theorem dDM_450 : Dc cq46 450 (.getfield 11) 3 453 := by decide +kernel
theorem dDM_453 : Dc cq46 453 .iadd 1 454 := by decide +kernel
theorem dDM_454 : Dc cq46 454 .iaload 1 455 := by decide +kernel
theorem dDM_455 : Dc cq46 455 (.istore 19) 2 457 := by decide +kernel
theorem dDM_457 : Dc cq46 457 (.iload 19) 2 459 := by decide +kernel
theorem dDM_459 : Dc cq46 459 (.ldc 88) 2 461 := by decide +kernel
theorem dDM_461 : Dc cq46 461 .iadd 1 462 := by decide +kernel
theorem dDM_462 : Dc cq46 462 (.istore 20) 2 464 := by decide +kernel
theorem dDM_464 : Dc cq46 464 (.aload 7) 2 466 := by decide +kernel
theorem dDM_466 : Dc cq46 466 (.getfield 17) 3 469 := by decide +kernel
theorem dDM_469 : Dc cq46 469 (.iload 15) 2 471 := by decide +kernel
theorem dDM_471 : Dc cq46 471 (.iconst 1) 1 472 := by decide +kernel
theorem dDM_472 : Dc cq46 472 .iadd 1 473 := by decide +kernel
theorem dDM_473 : Dc cq46 473 (.aload 7) 2 475 := by decide +kernel
theorem dDM_475 : Dc cq46 475 (.getfield 11) 3 478 := by decide +kernel
theorem dDM_478 : Dc cq46 478 .iadd 1 479 := by decide +kernel
theorem dDM_479 : Dc cq46 479 .iaload 1 480 := by decide +kernel
theorem dDM_480 : Dc cq46 480 (.istore 21) 2 482 := by decide +kernel
theorem dDM_482 : Dc cq46 482 (.iload 19) 2 484 := by decide +kernel
theorem dDM_484 : Dc cq46 484 (.iload 11) 2 486 := by decide +kernel
theorem dDM_486 : Db cq46 486 (.if_icmp .ne 33) 33 489 519 := by decide +kernel
theorem dDM_489 : Dc cq46 489 (.iconst (-1)) 1 490 := by decide +kernel
theorem dDM_490 : Dc cq46 490 (.istore 16) 2 492 := by decide +kernel
theorem dDM_492 : Dc cq46 492 (.iload 19) 2 494 := by decide +kernel
theorem dDM_494 : Dc cq46 494 (.iload 21) 2 496 := by decide +kernel
theorem dDM_496 : Dc cq46 496 .iadd 1 497 := by decide +kernel
theorem dDM_497 : Dc cq46 497 (.istore 17) 2 499 := by decide +kernel
theorem dDM_499 : Dc cq46 499 (.iload 17) 2 501 := by decide +kernel
theorem dDM_501 : Dc cq46 501 (.ldc 88) 2 503 := by decide +kernel
theorem dDM_503 : Dc cq46 503 .iadd 1 504 := by decide +kernel
theorem dDM_504 : Dc cq46 504 (.iload 20) 2 506 := by decide +kernel
theorem dDM_506 : Db cq46 506 (.if_icmp .ge 7) 7 509 513 := by decide +kernel
theorem dDM_509 : Dc cq46 509 (.iconst 1) 1 510 := by decide +kernel
theorem dDM_510 : Db cq46 510 (.goto 4) 4 513 514 := by decide +kernel
theorem dDM_513 : Dc cq46 513 (.iconst 0) 1 514 := by decide +kernel
theorem dDM_514 : Dc cq46 514 (.istore 18) 2 516 := by decide +kernel
theorem dDM_516 : Db cq46 516 (.goto 75) 75 519 591 := by decide +kernel
theorem dDM_519 : Dc cq46 519 (.iload 19) 2 521 := by decide +kernel
theorem dDM_521 : Dc cq46 521 .i2l 1 522 := by decide +kernel
theorem dDM_522 : Dc cq46 522 (.bipush 32) 2 524 := by decide +kernel
theorem dDM_524 : Dc cq46 524 .lshl 1 525 := by decide +kernel
theorem dDM_525 : Dc cq46 525 (.iload 21) 2 527 := by decide +kernel
theorem dDM_527 : Dc cq46 527 .i2l 1 528 := by decide +kernel
theorem dDM_528 : Dc cq46 528 (.ldc2_w 52) 3 531 := by decide +kernel
theorem dDM_531 : Dc cq46 531 .land 1 532 := by decide +kernel
theorem dDM_532 : Dc cq46 532 .lor 1 533 := by decide +kernel
theorem dDM_533 : Dc cq46 533 (.lstore 22) 2 535 := by decide +kernel
theorem dDM_535 : Dc cq46 535 (.lload 22) 2 537 := by decide +kernel
theorem dDM_537 : Dc cq46 537 (.lconst 0) 1 538 := by decide +kernel
theorem dDM_538 : Dc cq46 538 .lcmp 1 539 := by decide +kernel
theorem dDM_539 : Db cq46 539 (.ifCond .lt 26) 26 542 565 := by decide +kernel
theorem dDM_565 : Dc cq46 565 (.lload 22) 2 567 := by decide +kernel
theorem dDM_567 : Dc cq46 567 (.iload 11) 2 569 := by decide +kernel
theorem dDM_569 : Dc cq46 569 (.invokestatic 155) 3 572 := by decide +kernel
theorem dDM_572 : Dc cq46 572 (.lstore 24) 2 574 := by decide +kernel
theorem dDM_574 : Dc cq46 574 (.lload 24) 2 576 := by decide +kernel
theorem dDM_576 : Dc cq46 576 (.ldc2_w 52) 3 579 := by decide +kernel
theorem dDM_579 : Dc cq46 579 .land 1 580 := by decide +kernel
theorem dDM_580 : Dc cq46 580 .l2i 1 581 := by decide +kernel
theorem dDM_581 : Dc cq46 581 (.istore 16) 2 583 := by decide +kernel
theorem dDM_583 : Dc cq46 583 (.lload 24) 2 585 := by decide +kernel
theorem dDM_585 : Dc cq46 585 (.bipush 32) 2 587 := by decide +kernel
theorem dDM_587 : Dc cq46 587 .lushr 1 588 := by decide +kernel
theorem dDM_588 : Dc cq46 588 .l2i 1 589 := by decide +kernel
theorem dDM_589 : Dc cq46 589 (.istore 17) 2 591 := by decide +kernel
theorem dDM_542 : Dc cq46 542 (.lload 22) 2 544 := by decide +kernel
theorem dDM_544 : Dc cq46 544 (.lload 12) 2 546 := by decide +kernel
theorem dDM_546 : Dc cq46 546 .ldiv 1 547 := by decide +kernel
theorem dDM_547 : Dc cq46 547 .l2i 1 548 := by decide +kernel
theorem dDM_548 : Dc cq46 548 (.istore 16) 2 550 := by decide +kernel
theorem dDM_550 : Dc cq46 550 (.lload 22) 2 552 := by decide +kernel
theorem dDM_552 : Dc cq46 552 (.iload 16) 2 554 := by decide +kernel
theorem dDM_554 : Dc cq46 554 .i2l 1 555 := by decide +kernel
theorem dDM_555 : Dc cq46 555 (.lload 12) 2 557 := by decide +kernel
theorem dDM_557 : Dc cq46 557 .lmul 1 558 := by decide +kernel
theorem dDM_558 : Dc cq46 558 .lsub 1 559 := by decide +kernel
theorem dDM_559 : Dc cq46 559 .l2i 1 560 := by decide +kernel
theorem dDM_560 : Dc cq46 560 (.istore 17) 2 562 := by decide +kernel
theorem dDM_562 : Db cq46 562 (.goto 29) 29 565 591 := by decide +kernel
theorem dDM_591 : Dc cq46 591 (.iload 16) 2 593 := by decide +kernel
theorem dDM_593 : Db cq46 593 (.ifCond .ne 6) 6 596 599 := by decide +kernel
theorem dDM_596 : Db cq46 596 (.goto 226) 226 599 822 := by decide +kernel
theorem dDM_822 : Dc cq46 822 (.iinc 15 1) 3 825 := by decide +kernel
theorem dDM_825 : Db cq46 825 (.goto (-402)) (-402) 828 423 := by decide +kernel
theorem dDM_599 : Dc cq46 599 (.iload 18) 2 601 := by decide +kernel
theorem dDM_601 : Db cq46 601 (.ifCond .ne 139) 139 604 740 := by decide +kernel
theorem dDM_604 : Dc cq46 604 (.aload 7) 2 606 := by decide +kernel
theorem dDM_606 : Dc cq46 606 (.getfield 17) 3 609 := by decide +kernel
theorem dDM_609 : Dc cq46 609 (.iload 15) 2 611 := by decide +kernel
theorem dDM_611 : Dc cq46 611 (.iconst 2) 1 612 := by decide +kernel
theorem dDM_612 : Dc cq46 612 .iadd 1 613 := by decide +kernel
theorem dDM_613 : Dc cq46 613 (.aload 7) 2 615 := by decide +kernel
theorem dDM_615 : Dc cq46 615 (.getfield 11) 3 618 := by decide +kernel
theorem dDM_618 : Dc cq46 618 .iadd 1 619 := by decide +kernel
theorem dDM_619 : Dc cq46 619 .iaload 1 620 := by decide +kernel
theorem dDM_620 : Dc cq46 620 .i2l 1 621 := by decide +kernel
theorem dDM_621 : Dc cq46 621 (.ldc2_w 52) 3 624 := by decide +kernel
theorem dDM_624 : Dc cq46 624 .land 1 625 := by decide +kernel
theorem dDM_625 : Dc cq46 625 (.lstore 22) 2 627 := by decide +kernel
theorem dDM_627 : Dc cq46 627 (.iload 17) 2 629 := by decide +kernel
theorem dDM_629 : Dc cq46 629 .i2l 1 630 := by decide +kernel
theorem dDM_630 : Dc cq46 630 (.ldc2_w 52) 3 633 := by decide +kernel
theorem dDM_633 : Dc cq46 633 .land 1 634 := by decide +kernel
theorem dDM_634 : Dc cq46 634 (.bipush 32) 2 636 := by decide +kernel
theorem dDM_636 : Dc cq46 636 .lshl 1 637 := by decide +kernel
theorem dDM_637 : Dc cq46 637 (.lload 22) 2 639 := by decide +kernel
theorem dDM_639 : Dc cq46 639 .lor 1 640 := by decide +kernel
theorem dDM_640 : Dc cq46 640 (.lstore 24) 2 642 := by decide +kernel
theorem dDM_642 : Dc cq46 642 (.iload 14) 2 644 := by decide +kernel
theorem dDM_644 : Dc cq46 644 .i2l 1 645 := by decide +kernel
theorem dDM_645 : Dc cq46 645 (.ldc2_w 52) 3 648 := by decide +kernel
theorem dDM_648 : Dc cq46 648 .land 1 649 := by decide +kernel
theorem dDM_649 : Dc cq46 649 (.iload 16) 2 651 := by decide +kernel
theorem dDM_651 : Dc cq46 651 .i2l 1 652 := by decide +kernel
theorem dDM_652 : Dc cq46 652 (.ldc2_w 52) 3 655 := by decide +kernel
theorem dDM_655 : Dc cq46 655 .land 1 656 := by decide +kernel
theorem dDM_656 : Dc cq46 656 .lmul 1 657 := by decide +kernel
theorem dDM_657 : Dc cq46 657 (.lstore 26) 2 659 := by decide +kernel
theorem dDM_659 : Dc cq46 659 (.aload_n 0) 1 660 := by decide +kernel
theorem dDM_660 : Dc cq46 660 (.lload 26) 2 662 := by decide +kernel
theorem dDM_662 : Dc cq46 662 (.lload 24) 2 664 := by decide +kernel
theorem dDM_664 : Dc cq46 664 (.invokevirtual 273) 3 667 := by decide +kernel
theorem dDM_667 : Db cq46 667 (.ifCond .eq 73) 73 670 740 := by decide +kernel
theorem dDM_670 : Dc cq46 670 (.iinc 16 (-1)) 3 673 := by decide +kernel
theorem dDM_673 : Dc cq46 673 (.iload 17) 2 675 := by decide +kernel
theorem dDM_675 : Dc cq46 675 .i2l 1 676 := by decide +kernel
theorem dDM_676 : Dc cq46 676 (.ldc2_w 52) 3 679 := by decide +kernel
theorem dDM_679 : Dc cq46 679 .land 1 680 := by decide +kernel
theorem dDM_680 : Dc cq46 680 (.lload 12) 2 682 := by decide +kernel
theorem dDM_682 : Dc cq46 682 .ladd 1 683 := by decide +kernel
theorem dDM_683 : Dc cq46 683 .l2i 1 684 := by decide +kernel
theorem dDM_684 : Dc cq46 684 (.istore 17) 2 686 := by decide +kernel
theorem dDM_686 : Dc cq46 686 (.iload 17) 2 688 := by decide +kernel
theorem dDM_688 : Dc cq46 688 .i2l 1 689 := by decide +kernel
theorem dDM_689 : Dc cq46 689 (.ldc2_w 52) 3 692 := by decide +kernel
theorem dDM_692 : Dc cq46 692 .land 1 693 := by decide +kernel
theorem dDM_693 : Dc cq46 693 (.lload 12) 2 695 := by decide +kernel
theorem dDM_695 : Dc cq46 695 .lcmp 1 696 := by decide +kernel
theorem dDM_696 : Db cq46 696 (.ifCond .lt 44) 44 699 740 := by decide +kernel
theorem dDM_699 : Dc cq46 699 (.lload 26) 2 701 := by decide +kernel
theorem dDM_701 : Dc cq46 701 (.iload 14) 2 703 := by decide +kernel
theorem dDM_703 : Dc cq46 703 .i2l 1 704 := by decide +kernel
theorem dDM_704 : Dc cq46 704 (.ldc2_w 52) 3 707 := by decide +kernel
theorem dDM_707 : Dc cq46 707 .land 1 708 := by decide +kernel
theorem dDM_708 : Dc cq46 708 .lsub 1 709 := by decide +kernel
theorem dDM_709 : Dc cq46 709 (.lstore 26) 2 711 := by decide +kernel
theorem dDM_711 : Dc cq46 711 (.iload 17) 2 713 := by decide +kernel
theorem dDM_713 : Dc cq46 713 .i2l 1 714 := by decide +kernel
theorem dDM_714 : Dc cq46 714 (.ldc2_w 52) 3 717 := by decide +kernel
theorem dDM_717 : Dc cq46 717 .land 1 718 := by decide +kernel
theorem dDM_718 : Dc cq46 718 (.bipush 32) 2 720 := by decide +kernel
theorem dDM_720 : Dc cq46 720 .lshl 1 721 := by decide +kernel
theorem dDM_721 : Dc cq46 721 (.lload 22) 2 723 := by decide +kernel
theorem dDM_723 : Dc cq46 723 .lor 1 724 := by decide +kernel
theorem dDM_724 : Dc cq46 724 (.lstore 24) 2 726 := by decide +kernel
theorem dDM_726 : Dc cq46 726 (.aload_n 0) 1 727 := by decide +kernel
theorem dDM_727 : Dc cq46 727 (.lload 26) 2 729 := by decide +kernel
theorem dDM_729 : Dc cq46 729 (.lload 24) 2 731 := by decide +kernel
theorem dDM_731 : Dc cq46 731 (.invokevirtual 273) 3 734 := by decide +kernel
theorem dDM_734 : Db cq46 734 (.ifCond .eq 6) 6 737 740 := by decide +kernel
theorem dDM_737 : Dc cq46 737 (.iinc 16 (-1)) 3 740 := by decide +kernel
theorem dDM_740 : Dc cq46 740 (.aload 7) 2 742 := by decide +kernel
theorem dDM_742 : Dc cq46 742 (.getfield 17) 3 745 := by decide +kernel
theorem dDM_745 : Dc cq46 745 (.iload 15) 2 747 := by decide +kernel
theorem dDM_747 : Dc cq46 747 (.aload 7) 2 749 := by decide +kernel
theorem dDM_749 : Dc cq46 749 (.getfield 11) 3 752 := by decide +kernel
theorem dDM_752 : Dc cq46 752 .iadd 1 753 := by decide +kernel
theorem dDM_753 : Dc cq46 753 (.iconst 0) 1 754 := by decide +kernel
theorem dDM_754 : Dc cq46 754 .iastore 1 755 := by decide +kernel
theorem dDM_755 : Dc cq46 755 (.aload_n 0) 1 756 := by decide +kernel
theorem dDM_756 : Dc cq46 756 (.aload 7) 2 758 := by decide +kernel
theorem dDM_758 : Dc cq46 758 (.getfield 17) 3 761 := by decide +kernel
theorem dDM_761 : Dc cq46 761 (.aload 6) 2 763 := by decide +kernel
theorem dDM_763 : Dc cq46 763 (.iload 16) 2 765 := by decide +kernel
theorem dDM_765 : Dc cq46 765 (.iload 5) 2 767 := by decide +kernel
theorem dDM_767 : Dc cq46 767 (.iload 15) 2 769 := by decide +kernel
theorem dDM_769 : Dc cq46 769 (.aload 7) 2 771 := by decide +kernel
theorem dDM_771 : Dc cq46 771 (.getfield 11) 3 774 := by decide +kernel
theorem dDM_774 : Dc cq46 774 .iadd 1 775 := by decide +kernel
theorem dDM_775 : Dc cq46 775 (.invokevirtual 277) 3 778 := by decide +kernel
theorem wd271 {Z a0} (hw : Hw Z a0) : (Cond.methodLink "java/math/MutableBigInteger" 277 ⟨"java/math/MutableBigInteger", "mulsub", "([I[IIII)I"⟩).before a0 Z = true := hw _ (mg 271 rfl)
theorem wd273 {Z a0} (hw : Hw Z a0) : (Cond.privateMethod ⟨"java/math/MutableBigInteger", "mulsub", "([I[IIII)I"⟩).before a0 Z = true := hw _ (mg 273 rfl)
theorem wd274 {Z a0} (hw : Hw Z a0) : (Cond.selects "java/math/MutableBigInteger" ⟨"java/math/MutableBigInteger", "mulsub", "([I[IIII)I"⟩ ⟨"java/math/MutableBigInteger", "mulsub", "([I[IIII)I"⟩).before a0 Z = true := hw _ (mg 274 rfl)
theorem wd272 {Z a0} (hw : Hw Z a0) : (Cond.instanceMethod ⟨"java/math/MutableBigInteger", "mulsub", "([I[IIII)I"⟩).before a0 Z = true := hw _ (mg 272 rfl)
theorem wd275 {Z a0} (hw : Hw Z a0) : (Cond.code ⟨"java/math/MutableBigInteger", "mulsub", "([I[IIII)I"⟩ jdk_2101_method_39_code 15 (Option.some .int)).before a0 Z = true := hw _ (mg 275 rfl)
theorem dDM_778 : Dc cq46 778 (.istore 22) 2 780 := by decide +kernel
theorem dDM_780 : Dc cq46 780 (.iload 22) 2 782 := by decide +kernel
theorem dDM_782 : Dc cq46 782 (.ldc 88) 2 784 := by decide +kernel
theorem dDM_784 : Dc cq46 784 .iadd 1 785 := by decide +kernel
theorem dDM_785 : Dc cq46 785 (.iload 20) 2 787 := by decide +kernel
theorem dDM_787 : Db cq46 787 (.if_icmp .le 28) 28 790 815 := by decide +kernel
theorem dDM_815 : Dc cq46 815 (.aload 10) 2 817 := by decide +kernel
theorem dDM_817 : Dc cq46 817 (.iload 15) 2 819 := by decide +kernel
theorem dDM_819 : Dc cq46 819 (.iload 16) 2 821 := by decide +kernel
theorem dDM_821 : Dc cq46 821 .iastore 1 822 := by decide +kernel
theorem dDM_0 : Dc cq46 0 (.aload_n 1) 1 1 := by decide +kernel
theorem dDM_1 : Dc cq46 1 (.getfield 17) 3 4 := by decide +kernel
theorem dDM_4 : Dc cq46 4 (.aload_n 1) 1 5 := by decide +kernel
theorem dDM_5 : Dc cq46 5 (.getfield 11) 3 8 := by decide +kernel
theorem dDM_8 : Dc cq46 8 .iaload 1 9 := by decide +kernel
theorem dDM_9 : Dc cq46 9 (.invokestatic 152) 3 12 := by decide +kernel
theorem dDM_12 : Dc cq46 12 (.istore 4) 2 14 := by decide +kernel
theorem dDM_14 : Dc cq46 14 (.aload_n 1) 1 15 := by decide +kernel
theorem dDM_15 : Dc cq46 15 (.getfield 21) 3 18 := by decide +kernel
theorem dDM_18 : Dc cq46 18 (.istore 5) 2 20 := by decide +kernel
theorem dDM_20 : Dc cq46 20 (.iload 4) 2 22 := by decide +kernel
theorem dDM_22 : Db cq46 22 (.ifCond .le 226) 226 25 248 := by decide +kernel
theorem dDM_25 : Dc cq46 25 (.iload 5) 2 27 := by decide +kernel
theorem dDM_27 : Dc cq46 27 (.newarray .int) 2 29 := by decide +kernel
theorem dDM_29 : Dc cq46 29 (.astore 6) 2 31 := by decide +kernel
theorem dDM_31 : Dc cq46 31 (.aload_n 1) 1 32 := by decide +kernel
theorem dDM_32 : Dc cq46 32 (.getfield 17) 3 35 := by decide +kernel
theorem dDM_35 : Dc cq46 35 (.aload_n 1) 1 36 := by decide +kernel
theorem dDM_36 : Dc cq46 36 (.getfield 11) 3 39 := by decide +kernel
theorem dDM_39 : Dc cq46 39 (.iload 5) 2 41 := by decide +kernel
theorem dDM_41 : Dc cq46 41 (.aload 6) 2 43 := by decide +kernel
theorem dDM_43 : Dc cq46 43 (.iconst 0) 1 44 := by decide +kernel
theorem dDM_44 : Dc cq46 44 (.iload 4) 2 46 := by decide +kernel
theorem dDM_46 : Dc cq46 46 (.invokestatic 269) 3 49 := by decide +kernel
theorem pd_21 : parseMethodDescriptor "([III[III)V" = some ⟨[(.array .int), .int, .int, (.array .int), .int, .int], none⟩ := by decide +kernel
theorem wd256 {Z a0} (hw : Hw Z a0) : (Cond.methodLink "java/math/MutableBigInteger" 269 ⟨"java/math/MutableBigInteger", "copyAndShift", "([III[III)V"⟩).before a0 Z = true := hw _ (mg 256 rfl)
theorem wd257 {Z a0} (hw : Hw Z a0) : (Cond.static ⟨"java/math/MutableBigInteger", "copyAndShift", "([III[III)V"⟩).before a0 Z = true := hw _ (mg 257 rfl)
theorem wd258 {Z a0} (hw : Hw Z a0) : (Cond.code ⟨"java/math/MutableBigInteger", "copyAndShift", "([III[III)V"⟩ jdk_2101_method_64_code 10 (Option.none : Option Jvm.ClassFile.FieldType)).before a0 Z = true := hw _ (mg 258 rfl)
theorem dDM_49 : Dc cq46 49 (.aload_n 0) 1 50 := by decide +kernel
theorem dDM_50 : Dc cq46 50 (.getfield 17) 3 53 := by decide +kernel
theorem dDM_53 : Dc cq46 53 (.aload_n 0) 1 54 := by decide +kernel
theorem dDM_54 : Dc cq46 54 (.getfield 11) 3 57 := by decide +kernel
theorem dDM_57 : Dc cq46 57 .iaload 1 58 := by decide +kernel
theorem dDM_58 : Dc cq46 58 (.invokestatic 152) 3 61 := by decide +kernel
theorem dDM_61 : Dc cq46 61 (.iload 4) 2 63 := by decide +kernel
theorem dDM_63 : Db cq46 63 (.if_icmp .lt 62) 62 66 125 := by decide +kernel
theorem dDM_66 : Dc cq46 66 (.aload_n 0) 1 67 := by decide +kernel
theorem dDM_67 : Dc cq46 67 (.getfield 21) 3 70 := by decide +kernel
theorem dDM_70 : Dc cq46 70 (.iconst 1) 1 71 := by decide +kernel
theorem dDM_71 : Dc cq46 71 .iadd 1 72 := by decide +kernel
theorem dDM_72 : Dc cq46 72 (.newarray .int) 2 74 := by decide +kernel
theorem dDM_74 : Dc cq46 74 (.astore 8) 2 76 := by decide +kernel
theorem dDM_76 : Dc cq46 76 (.new 12) 3 79 := by decide +kernel
theorem wd259 {Z a0} (hw : Hw Z a0) : (Cond.classLink "java/math/MutableBigInteger" 12 "java/math/MutableBigInteger").before a0 Z = true := hw _ (mg 259 rfl)
theorem dDM_79 : Dc cq46 79 .dup 1 80 := by decide +kernel
theorem dDM_80 : Dc cq46 80 (.aload 8) 2 82 := by decide +kernel
theorem dDM_82 : Dc cq46 82 (.invokespecial 259) 3 85 := by decide +kernel
theorem pd_22 : parseMethodDescriptor "([I)V" = some ⟨[(.array .int)], none⟩ := by decide +kernel
theorem wd260 {Z a0} (hw : Hw Z a0) : (Cond.methodLink "java/math/MutableBigInteger" 259 ⟨"java/math/MutableBigInteger", "<init>", "([I)V"⟩).before a0 Z = true := hw _ (mg 260 rfl)
theorem wd165 {Z a0} (hw : Hw Z a0) : (Cond.instanceMethod ⟨"java/math/MutableBigInteger", "<init>", "([I)V"⟩).before a0 Z = true := hw _ (mg 165 rfl)
theorem wd166 {Z a0} (hw : Hw Z a0) : (Cond.code ⟨"java/math/MutableBigInteger", "<init>", "([I)V"⟩ jdk_2101_method_3_code 2 (Option.none : Option Jvm.ClassFile.FieldType)).before a0 Z = true := hw _ (mg 166 rfl)
theorem dDM_85 : Dc cq46 85 (.astore 7) 2 87 := by decide +kernel
theorem dDM_87 : Dc cq46 87 (.aload 7) 2 89 := by decide +kernel
theorem dDM_89 : Dc cq46 89 (.aload_n 0) 1 90 := by decide +kernel
theorem dDM_90 : Dc cq46 90 (.getfield 21) 3 93 := by decide +kernel
theorem dDM_93 : Dc cq46 93 (.putfield 21) 3 96 := by decide +kernel
theorem dDM_96 : Dc cq46 96 (.aload 7) 2 98 := by decide +kernel
theorem dDM_98 : Dc cq46 98 (.iconst 1) 1 99 := by decide +kernel
theorem dDM_99 : Dc cq46 99 (.putfield 11) 3 102 := by decide +kernel
theorem dDM_102 : Dc cq46 102 (.aload_n 0) 1 103 := by decide +kernel
theorem dDM_103 : Dc cq46 103 (.getfield 17) 3 106 := by decide +kernel
theorem dDM_106 : Dc cq46 106 (.aload_n 0) 1 107 := by decide +kernel
theorem dDM_107 : Dc cq46 107 (.getfield 11) 3 110 := by decide +kernel
theorem dDM_110 : Dc cq46 110 (.aload_n 0) 1 111 := by decide +kernel
theorem dDM_111 : Dc cq46 111 (.getfield 21) 3 114 := by decide +kernel
theorem dDM_114 : Dc cq46 114 (.aload 8) 2 116 := by decide +kernel
theorem dDM_116 : Dc cq46 116 (.iconst 1) 1 117 := by decide +kernel
theorem dDM_117 : Dc cq46 117 (.iload 4) 2 119 := by decide +kernel
theorem dDM_119 : Dc cq46 119 (.invokestatic 269) 3 122 := by decide +kernel
theorem dDM_122 : Db cq46 122 (.goto 201) 201 125 323 := by decide +kernel
theorem dDM_323 : Dc cq46 323 (.aload 7) 2 325 := by decide +kernel
theorem dDM_325 : Dc cq46 325 (.getfield 21) 3 328 := by decide +kernel
theorem dDM_328 : Dc cq46 328 (.istore 8) 2 330 := by decide +kernel
theorem dDM_330 : Dc cq46 330 (.iload 8) 2 332 := by decide +kernel
theorem dDM_332 : Dc cq46 332 (.iload 5) 2 334 := by decide +kernel
theorem dDM_334 : Dc cq46 334 .isub 1 335 := by decide +kernel
theorem dDM_335 : Dc cq46 335 (.iconst 1) 1 336 := by decide +kernel
theorem dDM_336 : Dc cq46 336 .iadd 1 337 := by decide +kernel
theorem dDM_337 : Dc cq46 337 (.istore 9) 2 339 := by decide +kernel
theorem dDM_339 : Dc cq46 339 (.aload_n 2) 1 340 := by decide +kernel
theorem dDM_340 : Dc cq46 340 (.getfield 17) 3 343 := by decide +kernel
theorem dDM_343 : Dc cq46 343 .arraylength 1 344 := by decide +kernel
theorem dDM_344 : Dc cq46 344 (.iload 9) 2 346 := by decide +kernel
theorem dDM_346 : Db cq46 346 (.if_icmp .ge 16) 16 349 362 := by decide +kernel
theorem dDM_349 : Dc cq46 349 (.aload_n 2) 1 350 := by decide +kernel
theorem dDM_350 : Dc cq46 350 (.iload 9) 2 352 := by decide +kernel
theorem dDM_352 : Dc cq46 352 (.newarray .int) 2 354 := by decide +kernel
theorem dDM_354 : Dc cq46 354 (.putfield 17) 3 357 := by decide +kernel
theorem dDM_357 : Dc cq46 357 (.aload_n 2) 1 358 := by decide +kernel
theorem dDM_358 : Dc cq46 358 (.iconst 0) 1 359 := by decide +kernel
theorem dDM_359 : Dc cq46 359 (.putfield 11) 3 362 := by decide +kernel
theorem dDM_362 : Dc cq46 362 (.aload_n 2) 1 363 := by decide +kernel
theorem dDM_363 : Dc cq46 363 (.iload 9) 2 365 := by decide +kernel
theorem dDM_365 : Dc cq46 365 (.putfield 21) 3 368 := by decide +kernel
theorem dDM_368 : Dc cq46 368 (.aload_n 2) 1 369 := by decide +kernel
theorem dDM_369 : Dc cq46 369 (.getfield 17) 3 372 := by decide +kernel
theorem dDM_372 : Dc cq46 372 (.astore 10) 2 374 := by decide +kernel
theorem dDM_374 : Dc cq46 374 (.aload 7) 2 376 := by decide +kernel
theorem dDM_376 : Dc cq46 376 (.iconst 0) 1 377 := by decide +kernel
theorem dDM_377 : Dc cq46 377 (.putfield 11) 3 380 := by decide +kernel
theorem dDM_380 : Dc cq46 380 (.aload 7) 2 382 := by decide +kernel
theorem dDM_382 : Dc cq46 382 (.getfield 17) 3 385 := by decide +kernel
theorem dDM_385 : Dc cq46 385 (.iconst 0) 1 386 := by decide +kernel
theorem dDM_386 : Dc cq46 386 (.iconst 0) 1 387 := by decide +kernel
theorem dDM_387 : Dc cq46 387 .iastore 1 388 := by decide +kernel
theorem dDM_388 : Dc cq46 388 (.aload 7) 2 390 := by decide +kernel
theorem dDM_390 : Dc cq46 390 .dup 1 391 := by decide +kernel
theorem dDM_391 : Dc cq46 391 (.getfield 21) 3 394 := by decide +kernel
theorem dDM_394 : Dc cq46 394 (.iconst 1) 1 395 := by decide +kernel
theorem dDM_395 : Dc cq46 395 .iadd 1 396 := by decide +kernel
theorem dDM_396 : Dc cq46 396 (.putfield 21) 3 399 := by decide +kernel
theorem dDM_399 : Dc cq46 399 (.aload 6) 2 401 := by decide +kernel
theorem dDM_401 : Dc cq46 401 (.iconst 0) 1 402 := by decide +kernel
theorem dDM_402 : Dc cq46 402 .iaload 1 403 := by decide +kernel
theorem dDM_403 : Dc cq46 403 (.istore 11) 2 405 := by decide +kernel
theorem dDM_405 : Dc cq46 405 (.iload 11) 2 407 := by decide +kernel
theorem dDM_407 : Dc cq46 407 .i2l 1 408 := by decide +kernel
theorem dDM_408 : Dc cq46 408 (.ldc2_w 52) 3 411 := by decide +kernel
theorem dDM_411 : Dc cq46 411 .land 1 412 := by decide +kernel
theorem dDM_412 : Dc cq46 412 (.lstore 12) 2 414 := by decide +kernel
theorem dDM_414 : Dc cq46 414 (.aload 6) 2 416 := by decide +kernel
theorem dDM_416 : Dc cq46 416 (.iconst 1) 1 417 := by decide +kernel
theorem dDM_417 : Dc cq46 417 .iaload 1 418 := by decide +kernel
theorem dDM_418 : Dc cq46 418 (.istore 14) 2 420 := by decide +kernel
theorem dDM_420 : Dc cq46 420 (.iconst 0) 1 421 := by decide +kernel
theorem dDM_421 : Dc cq46 421 (.istore 15) 2 423 := by decide +kernel
theorem dDM_125 : Dc cq46 125 (.aload_n 0) 1 126 := by decide +kernel
theorem dDM_126 : Dc cq46 126 (.getfield 21) 3 129 := by decide +kernel
theorem dDM_129 : Dc cq46 129 (.iconst 2) 1 130 := by decide +kernel
theorem dDM_130 : Dc cq46 130 .iadd 1 131 := by decide +kernel
theorem dDM_131 : Dc cq46 131 (.newarray .int) 2 133 := by decide +kernel
theorem dDM_133 : Dc cq46 133 (.astore 8) 2 135 := by decide +kernel
theorem dDM_135 : Dc cq46 135 (.new 12) 3 138 := by decide +kernel
theorem dDM_138 : Dc cq46 138 .dup 1 139 := by decide +kernel
theorem dDM_139 : Dc cq46 139 (.aload 8) 2 141 := by decide +kernel
theorem dDM_141 : Dc cq46 141 (.invokespecial 259) 3 144 := by decide +kernel
theorem dDM_144 : Dc cq46 144 (.astore 7) 2 146 := by decide +kernel
theorem dDM_146 : Dc cq46 146 (.aload 7) 2 148 := by decide +kernel
theorem dDM_148 : Dc cq46 148 (.aload_n 0) 1 149 := by decide +kernel
theorem dDM_149 : Dc cq46 149 (.getfield 21) 3 152 := by decide +kernel
theorem dDM_152 : Dc cq46 152 (.iconst 1) 1 153 := by decide +kernel
theorem dDM_153 : Dc cq46 153 .iadd 1 154 := by decide +kernel
theorem dDM_154 : Dc cq46 154 (.putfield 21) 3 157 := by decide +kernel
theorem dDM_157 : Dc cq46 157 (.aload 7) 2 159 := by decide +kernel
theorem dDM_159 : Dc cq46 159 (.iconst 1) 1 160 := by decide +kernel
theorem dDM_160 : Dc cq46 160 (.putfield 11) 3 163 := by decide +kernel
theorem dDM_163 : Dc cq46 163 (.aload_n 0) 1 164 := by decide +kernel
theorem dDM_164 : Dc cq46 164 (.getfield 11) 3 167 := by decide +kernel
theorem dDM_167 : Dc cq46 167 (.istore 9) 2 169 := by decide +kernel
theorem dDM_169 : Dc cq46 169 (.iconst 0) 1 170 := by decide +kernel
theorem dDM_170 : Dc cq46 170 (.istore 10) 2 172 := by decide +kernel
theorem dDM_172 : Dc cq46 172 (.bipush 32) 2 174 := by decide +kernel
theorem dDM_174 : Dc cq46 174 (.iload 4) 2 176 := by decide +kernel
theorem dDM_176 : Dc cq46 176 .isub 1 177 := by decide +kernel
theorem dDM_177 : Dc cq46 177 (.istore 11) 2 179 := by decide +kernel
theorem dDM_179 : Dc cq46 179 (.iconst 1) 1 180 := by decide +kernel
theorem dDM_180 : Dc cq46 180 (.istore 12) 2 182 := by decide +kernel
theorem dDM_182 : Dc cq46 182 (.iload 12) 2 184 := by decide +kernel
theorem dDM_184 : Dc cq46 184 (.aload_n 0) 1 185 := by decide +kernel
theorem dDM_185 : Dc cq46 185 (.getfield 21) 3 188 := by decide +kernel
theorem dDM_188 : Dc cq46 188 (.iconst 1) 1 189 := by decide +kernel
theorem dDM_189 : Dc cq46 189 .iadd 1 190 := by decide +kernel
theorem dDM_190 : Db cq46 190 (.if_icmp .ge 41) 41 193 231 := by decide +kernel
theorem dDM_193 : Dc cq46 193 (.iload 10) 2 195 := by decide +kernel
theorem dDM_195 : Dc cq46 195 (.istore 13) 2 197 := by decide +kernel
theorem dDM_197 : Dc cq46 197 (.aload_n 0) 1 198 := by decide +kernel
theorem dDM_198 : Dc cq46 198 (.getfield 17) 3 201 := by decide +kernel
theorem dDM_201 : Dc cq46 201 (.iload 9) 2 203 := by decide +kernel
theorem dDM_203 : Dc cq46 203 .iaload 1 204 := by decide +kernel
theorem dDM_204 : Dc cq46 204 (.istore 10) 2 206 := by decide +kernel
theorem dDM_206 : Dc cq46 206 (.aload 8) 2 208 := by decide +kernel
theorem dDM_208 : Dc cq46 208 (.iload 12) 2 210 := by decide +kernel
theorem dDM_210 : Dc cq46 210 (.iload 13) 2 212 := by decide +kernel
theorem dDM_212 : Dc cq46 212 (.iload 4) 2 214 := by decide +kernel
theorem dDM_214 : Dc cq46 214 .ishl 1 215 := by decide +kernel
theorem dDM_215 : Dc cq46 215 (.iload 10) 2 217 := by decide +kernel
theorem dDM_217 : Dc cq46 217 (.iload 11) 2 219 := by decide +kernel
theorem dDM_219 : Dc cq46 219 .iushr 1 220 := by decide +kernel
theorem dDM_220 : Dc cq46 220 .ior 1 221 := by decide +kernel
theorem dDM_221 : Dc cq46 221 .iastore 1 222 := by decide +kernel
theorem dDM_222 : Dc cq46 222 (.iinc 12 1) 3 225 := by decide +kernel
theorem dDM_225 : Dc cq46 225 (.iinc 9 1) 3 228 := by decide +kernel
theorem dDM_228 : Db cq46 228 (.goto (-46)) (-46) 231 182 := by decide +kernel
theorem dDM_231 : Dc cq46 231 (.aload 8) 2 233 := by decide +kernel
theorem dDM_233 : Dc cq46 233 (.aload_n 0) 1 234 := by decide +kernel
theorem dDM_234 : Dc cq46 234 (.getfield 21) 3 237 := by decide +kernel
theorem dDM_237 : Dc cq46 237 (.iconst 1) 1 238 := by decide +kernel
theorem dDM_238 : Dc cq46 238 .iadd 1 239 := by decide +kernel
theorem dDM_239 : Dc cq46 239 (.iload 10) 2 241 := by decide +kernel
theorem dDM_241 : Dc cq46 241 (.iload 4) 2 243 := by decide +kernel
theorem dDM_243 : Dc cq46 243 .ishl 1 244 := by decide +kernel
theorem dDM_244 : Dc cq46 244 .iastore 1 245 := by decide +kernel
theorem dDM_245 : Db cq46 245 (.goto 78) 78 248 323 := by decide +kernel
theorem efDM (m : MethodId) (x0 : Addr) (x1 : Addr) (x2 : Addr) (x3 : Int32) : entryFrame m #[.ref x0, .ref x1, .ref x2, .int x3] 28 = mkF m 0 #[.val (.ref x0), .val (.ref x1), .val (.ref x2), .val (.int x3), .unset, .unset, .unset, .unset, .unset, .unset, .unset, .unset, .unset, .unset, .unset, .unset, .unset, .unset, .unset, .unset, .unset, .unset, .unset, .unset, .unset, .unset, .unset, .unset] [] := by first | (simp [entryFrame, mkF, argsToLocals, Value.category]; done) | rfl
theorem pnDM : plainFor (⟨"java/math/MutableBigInteger", "divideMagnitude", "(Ljava/math/MutableBigInteger;Ljava/math/MutableBigInteger;Z)Ljava/math/MutableBigInteger;"⟩ : MethodName) = true := plainFor_of_name (by first | (simp [plainName, overriddenIn]; done) | decide +kernel)
theorem dMK_0 : Dc cq47 0 (.aload_n 1) 1 1 := by decide +kernel
theorem dMK_1 : Dc cq47 1 (.getfield 21) 3 4 := by decide +kernel
theorem dMK_4 : Db cq47 4 (.ifCond .ne 13) 13 7 17 := by decide +kernel
theorem dMK_17 : Dc cq47 17 (.aload_n 0) 1 18 := by decide +kernel
theorem dMK_18 : Dc cq47 18 (.getfield 21) 3 21 := by decide +kernel
theorem dMK_21 : Db cq47 21 (.ifCond .ne 29) 29 24 50 := by decide +kernel
theorem dMK_50 : Dc cq47 50 (.aload_n 0) 1 51 := by decide +kernel
theorem dMK_51 : Dc cq47 51 (.aload_n 1) 1 52 := by decide +kernel
theorem dMK_52 : Dc cq47 52 (.invokevirtual 142) 3 55 := by decide +kernel
theorem pd_23 : parseMethodDescriptor "(Ljava/math/MutableBigInteger;)I" = some ⟨[(.object "java/math/MutableBigInteger")], some .int⟩ := by decide +kernel
theorem wd172 {Z a0} (hw : Hw Z a0) : (Cond.methodLink "java/math/MutableBigInteger" 142 ⟨"java/math/MutableBigInteger", "compare", "(Ljava/math/MutableBigInteger;)I"⟩).before a0 Z = true := hw _ (mg 172 rfl)
theorem wd173 {Z a0} (hw : Hw Z a0) : (Cond.declares ⟨"java/math/MutableBigInteger", "compare", "(Ljava/math/MutableBigInteger;)I"⟩).before a0 Z = true := hw _ (mg 173 rfl)
theorem wd175 {Z a0} (hw : Hw Z a0) : (Cond.selects "java/math/MutableBigInteger" ⟨"java/math/MutableBigInteger", "compare", "(Ljava/math/MutableBigInteger;)I"⟩ ⟨"java/math/MutableBigInteger", "compare", "(Ljava/math/MutableBigInteger;)I"⟩).before a0 Z = true := hw _ (mg 175 rfl)
theorem wd174 {Z a0} (hw : Hw Z a0) : (Cond.instanceMethod ⟨"java/math/MutableBigInteger", "compare", "(Ljava/math/MutableBigInteger;)I"⟩).before a0 Z = true := hw _ (mg 174 rfl)
theorem wd176 {Z a0} (hw : Hw Z a0) : (Cond.code ⟨"java/math/MutableBigInteger", "compare", "(Ljava/math/MutableBigInteger;)I"⟩ jdk_2101_method_15_code 8 (Option.some .int)).before a0 Z = true := hw _ (mg 176 rfl)
theorem dMK_55 : Dc cq47 55 (.istore 4) 2 57 := by decide +kernel
theorem dMK_57 : Dc cq47 57 (.iload 4) 2 59 := by decide +kernel
theorem dMK_59 : Db cq47 59 (.ifCond .ge 30) 30 62 89 := by decide +kernel
theorem dMK_89 : Dc cq47 89 (.iload 4) 2 91 := by decide +kernel
theorem dMK_91 : Db cq47 91 (.ifCond .ne 36) 36 94 127 := by decide +kernel
theorem dMK_127 : Dc cq47 127 (.aload_n 2) 1 128 := by decide +kernel
theorem dMK_128 : Dc cq47 128 (.invokevirtual 149) 3 131 := by decide +kernel
theorem wd177 {Z a0} (hw : Hw Z a0) : (Cond.methodLink "java/math/MutableBigInteger" 149 ⟨"java/math/MutableBigInteger", "clear", "()V"⟩).before a0 Z = true := hw _ (mg 177 rfl)
theorem wd178 {Z a0} (hw : Hw Z a0) : (Cond.declares ⟨"java/math/MutableBigInteger", "clear", "()V"⟩).before a0 Z = true := hw _ (mg 178 rfl)
theorem wd180 {Z a0} (hw : Hw Z a0) : (Cond.selects "java/math/MutableBigInteger" ⟨"java/math/MutableBigInteger", "clear", "()V"⟩ ⟨"java/math/MutableBigInteger", "clear", "()V"⟩).before a0 Z = true := hw _ (mg 180 rfl)
theorem wd179 {Z a0} (hw : Hw Z a0) : (Cond.instanceMethod ⟨"java/math/MutableBigInteger", "clear", "()V"⟩).before a0 Z = true := hw _ (mg 179 rfl)
theorem wd181 {Z a0} (hw : Hw Z a0) : (Cond.code ⟨"java/math/MutableBigInteger", "clear", "()V"⟩ jdk_2101_method_13_code 3 (Option.none : Option Jvm.ClassFile.FieldType)).before a0 Z = true := hw _ (mg 181 rfl)
theorem dMK_131 : Dc cq47 131 (.aload_n 1) 1 132 := by decide +kernel
theorem dMK_132 : Dc cq47 132 (.getfield 21) 3 135 := by decide +kernel
theorem dMK_135 : Dc cq47 135 (.iconst 1) 1 136 := by decide +kernel
theorem dMK_136 : Db cq47 136 (.if_icmp .ne 48) 48 139 184 := by decide +kernel
theorem dMK_139 : Dc cq47 139 (.aload_n 0) 1 140 := by decide +kernel
theorem dMK_140 : Dc cq47 140 (.aload_n 1) 1 141 := by decide +kernel
theorem dMK_141 : Dc cq47 141 (.getfield 17) 3 144 := by decide +kernel
theorem dMK_144 : Dc cq47 144 (.aload_n 1) 1 145 := by decide +kernel
theorem dMK_145 : Dc cq47 145 (.getfield 11) 3 148 := by decide +kernel
theorem dMK_148 : Dc cq47 148 .iaload 1 149 := by decide +kernel
theorem dMK_149 : Dc cq47 149 (.aload_n 2) 1 150 := by decide +kernel
theorem dMK_150 : Dc cq47 150 (.invokevirtual 178) 3 153 := by decide +kernel
theorem pd_24 : parseMethodDescriptor "(ILjava/math/MutableBigInteger;)I" = some ⟨[.int, (.object "java/math/MutableBigInteger")], some .int⟩ := by decide +kernel
theorem wd182 {Z a0} (hw : Hw Z a0) : (Cond.methodLink "java/math/MutableBigInteger" 178 ⟨"java/math/MutableBigInteger", "divideOneWord", "(ILjava/math/MutableBigInteger;)I"⟩).before a0 Z = true := hw _ (mg 182 rfl)
theorem wd183 {Z a0} (hw : Hw Z a0) : (Cond.declares ⟨"java/math/MutableBigInteger", "divideOneWord", "(ILjava/math/MutableBigInteger;)I"⟩).before a0 Z = true := hw _ (mg 183 rfl)
theorem wd185 {Z a0} (hw : Hw Z a0) : (Cond.selects "java/math/MutableBigInteger" ⟨"java/math/MutableBigInteger", "divideOneWord", "(ILjava/math/MutableBigInteger;)I"⟩ ⟨"java/math/MutableBigInteger", "divideOneWord", "(ILjava/math/MutableBigInteger;)I"⟩).before a0 Z = true := hw _ (mg 185 rfl)
theorem wd184 {Z a0} (hw : Hw Z a0) : (Cond.instanceMethod ⟨"java/math/MutableBigInteger", "divideOneWord", "(ILjava/math/MutableBigInteger;)I"⟩).before a0 Z = true := hw _ (mg 184 rfl)
theorem wd186 {Z a0} (hw : Hw Z a0) : (Cond.code ⟨"java/math/MutableBigInteger", "divideOneWord", "(ILjava/math/MutableBigInteger;)I"⟩ jdk_2101_method_53_code 15 (Option.some .int)).before a0 Z = true := hw _ (mg 186 rfl)
theorem dMK_153 : Dc cq47 153 (.istore 5) 2 155 := by decide +kernel
theorem dMK_155 : Dc cq47 155 (.iload_n 3) 1 156 := by decide +kernel
theorem dMK_156 : Db cq47 156 (.ifCond .eq 26) 26 159 182 := by decide +kernel
theorem dMK_182 : Dc cq47 182 .aconst_null 1 183 := by decide +kernel
theorem dMK_183 : Dc cq47 183 .areturn 1 184 := by decide +kernel
theorem dMK_184 : Dc cq47 184 (.aload_n 0) 1 185 := by decide +kernel
theorem dMK_185 : Dc cq47 185 (.getfield 21) 3 188 := by decide +kernel
theorem dMK_188 : Dc cq47 188 (.bipush 6) 2 190 := by decide +kernel
theorem dMK_190 : Db cq47 190 (.if_icmp .lt 74) 74 193 264 := by decide +kernel
theorem dMK_264 : Dc cq47 264 (.aload_n 0) 1 265 := by decide +kernel
theorem dMK_265 : Dc cq47 265 (.aload_n 1) 1 266 := by decide +kernel
theorem dMK_266 : Dc cq47 266 (.aload_n 2) 1 267 := by decide +kernel
theorem dMK_267 : Dc cq47 267 (.iload_n 3) 1 268 := by decide +kernel
theorem dMK_268 : Dc cq47 268 (.invokevirtual 190) 3 271 := by decide +kernel
theorem pd_25 : parseMethodDescriptor "(Ljava/math/MutableBigInteger;Ljava/math/MutableBigInteger;Z)Ljava/math/MutableBigInteger;" = some ⟨[(.object "java/math/MutableBigInteger"), (.object "java/math/MutableBigInteger"), .boolean], some (.object "java/math/MutableBigInteger")⟩ := by decide +kernel
theorem wd251 {Z a0} (hw : Hw Z a0) : (Cond.methodLink "java/math/MutableBigInteger" 190 ⟨"java/math/MutableBigInteger", "divideMagnitude", "(Ljava/math/MutableBigInteger;Ljava/math/MutableBigInteger;Z)Ljava/math/MutableBigInteger;"⟩).before a0 Z = true := hw _ (mg 251 rfl)
theorem wd253 {Z a0} (hw : Hw Z a0) : (Cond.privateMethod ⟨"java/math/MutableBigInteger", "divideMagnitude", "(Ljava/math/MutableBigInteger;Ljava/math/MutableBigInteger;Z)Ljava/math/MutableBigInteger;"⟩).before a0 Z = true := hw _ (mg 253 rfl)
theorem wd254 {Z a0} (hw : Hw Z a0) : (Cond.selects "java/math/MutableBigInteger" ⟨"java/math/MutableBigInteger", "divideMagnitude", "(Ljava/math/MutableBigInteger;Ljava/math/MutableBigInteger;Z)Ljava/math/MutableBigInteger;"⟩ ⟨"java/math/MutableBigInteger", "divideMagnitude", "(Ljava/math/MutableBigInteger;Ljava/math/MutableBigInteger;Z)Ljava/math/MutableBigInteger;"⟩).before a0 Z = true := hw _ (mg 254 rfl)
theorem wd252 {Z a0} (hw : Hw Z a0) : (Cond.instanceMethod ⟨"java/math/MutableBigInteger", "divideMagnitude", "(Ljava/math/MutableBigInteger;Ljava/math/MutableBigInteger;Z)Ljava/math/MutableBigInteger;"⟩).before a0 Z = true := hw _ (mg 252 rfl)
theorem wd255 {Z a0} (hw : Hw Z a0) : (Cond.code ⟨"java/math/MutableBigInteger", "divideMagnitude", "(Ljava/math/MutableBigInteger;Ljava/math/MutableBigInteger;Z)Ljava/math/MutableBigInteger;"⟩ jdk_2101_method_65_code 28 (Option.some (.object "java/math/MutableBigInteger"))).before a0 Z = true := hw _ (mg 255 rfl)
theorem dMK_271 : Dc cq47 271 .areturn 1 272 := by decide +kernel
theorem efMK (m : MethodId) (x0 : Addr) (x1 : Addr) (x2 : Addr) (x3 : Int32) : entryFrame m #[.ref x0, .ref x1, .ref x2, .int x3] 8 = mkF m 0 #[.val (.ref x0), .val (.ref x1), .val (.ref x2), .val (.int x3), .unset, .unset, .unset, .unset] [] := by first | (simp [entryFrame, mkF, argsToLocals, Value.category]; done) | rfl
theorem pnMK : plainFor (⟨"java/math/MutableBigInteger", "divideKnuth", "(Ljava/math/MutableBigInteger;Ljava/math/MutableBigInteger;Z)Ljava/math/MutableBigInteger;"⟩ : MethodName) = true := plainFor_of_name (by first | (simp [plainName, overriddenIn]; done) | decide +kernel)
theorem dBK_0 : Dc cq48 0 (.new 541) 3 3 := by decide +kernel
theorem wd150 {Z a0} (hw : Hw Z a0) : (Cond.classLink "java/math/BigInteger" 541 "java/math/MutableBigInteger").before a0 Z = true := hw _ (mg 150 rfl)
theorem dBK_3 : Dc cq48 3 .dup 1 4 := by decide +kernel
theorem dBK_4 : Dc cq48 4 (.invokespecial 543) 3 7 := by decide +kernel
theorem wd153 {Z a0} (hw : Hw Z a0) : (Cond.methodLink "java/math/BigInteger" 543 ⟨"java/math/MutableBigInteger", "<init>", "()V"⟩).before a0 Z = true := hw _ (mg 153 rfl)
theorem wd154 {Z a0} (hw : Hw Z a0) : (Cond.instanceMethod ⟨"java/math/MutableBigInteger", "<init>", "()V"⟩).before a0 Z = true := hw _ (mg 154 rfl)
theorem wd156 {Z a0} (hw : Hw Z a0) : (Cond.code ⟨"java/math/MutableBigInteger", "<init>", "()V"⟩ jdk_2101_method_1_code 1 (Option.none : Option Jvm.ClassFile.FieldType)).before a0 Z = true := hw _ (mg 156 rfl)
theorem dBK_7 : Dc cq48 7 (.astore_n 2) 1 8 := by decide +kernel
theorem dBK_8 : Dc cq48 8 (.new 541) 3 11 := by decide +kernel
theorem dBK_11 : Dc cq48 11 .dup 1 12 := by decide +kernel
theorem dBK_12 : Dc cq48 12 (.aload_n 0) 1 13 := by decide +kernel
theorem dBK_13 : Dc cq48 13 (.getfield 28) 3 16 := by decide +kernel
theorem dBK_16 : Dc cq48 16 (.invokespecial 544) 3 19 := by decide +kernel
theorem wd164 {Z a0} (hw : Hw Z a0) : (Cond.methodLink "java/math/BigInteger" 544 ⟨"java/math/MutableBigInteger", "<init>", "([I)V"⟩).before a0 Z = true := hw _ (mg 164 rfl)
theorem dBK_19 : Dc cq48 19 (.astore_n 3) 1 20 := by decide +kernel
theorem dBK_20 : Dc cq48 20 (.new 541) 3 23 := by decide +kernel
theorem dBK_23 : Dc cq48 23 .dup 1 24 := by decide +kernel
theorem dBK_24 : Dc cq48 24 (.aload_n 1) 1 25 := by decide +kernel
theorem dBK_25 : Dc cq48 25 (.getfield 28) 3 28 := by decide +kernel
theorem dBK_28 : Dc cq48 28 (.invokespecial 544) 3 31 := by decide +kernel
theorem dBK_31 : Dc cq48 31 (.astore 4) 2 33 := by decide +kernel
theorem dBK_33 : Dc cq48 33 (.aload_n 3) 1 34 := by decide +kernel
theorem dBK_34 : Dc cq48 34 (.aload 4) 2 36 := by decide +kernel
theorem dBK_36 : Dc cq48 36 (.aload_n 2) 1 37 := by decide +kernel
theorem dBK_37 : Dc cq48 37 (.iconst 0) 1 38 := by decide +kernel
theorem dBK_38 : Dc cq48 38 (.invokevirtual 545) 3 41 := by decide +kernel
theorem wd167 {Z a0} (hw : Hw Z a0) : (Cond.methodLink "java/math/BigInteger" 545 ⟨"java/math/MutableBigInteger", "divideKnuth", "(Ljava/math/MutableBigInteger;Ljava/math/MutableBigInteger;Z)Ljava/math/MutableBigInteger;"⟩).before a0 Z = true := hw _ (mg 167 rfl)
theorem wd168 {Z a0} (hw : Hw Z a0) : (Cond.declares ⟨"java/math/MutableBigInteger", "divideKnuth", "(Ljava/math/MutableBigInteger;Ljava/math/MutableBigInteger;Z)Ljava/math/MutableBigInteger;"⟩).before a0 Z = true := hw _ (mg 168 rfl)
theorem wd170 {Z a0} (hw : Hw Z a0) : (Cond.selects "java/math/MutableBigInteger" ⟨"java/math/MutableBigInteger", "divideKnuth", "(Ljava/math/MutableBigInteger;Ljava/math/MutableBigInteger;Z)Ljava/math/MutableBigInteger;"⟩ ⟨"java/math/MutableBigInteger", "divideKnuth", "(Ljava/math/MutableBigInteger;Ljava/math/MutableBigInteger;Z)Ljava/math/MutableBigInteger;"⟩).before a0 Z = true := hw _ (mg 170 rfl)
theorem wd169 {Z a0} (hw : Hw Z a0) : (Cond.instanceMethod ⟨"java/math/MutableBigInteger", "divideKnuth", "(Ljava/math/MutableBigInteger;Ljava/math/MutableBigInteger;Z)Ljava/math/MutableBigInteger;"⟩).before a0 Z = true := hw _ (mg 169 rfl)
theorem wd171 {Z a0} (hw : Hw Z a0) : (Cond.code ⟨"java/math/MutableBigInteger", "divideKnuth", "(Ljava/math/MutableBigInteger;Ljava/math/MutableBigInteger;Z)Ljava/math/MutableBigInteger;"⟩ jdk_2101_method_57_code 8 (Option.some (.object "java/math/MutableBigInteger"))).before a0 Z = true := hw _ (mg 171 rfl)
theorem dBK_41 : Dc cq48 41 .pop 1 42 := by decide +kernel
theorem dBK_42 : Dc cq48 42 (.aload_n 2) 1 43 := by decide +kernel
theorem dBK_43 : Dc cq48 43 (.aload_n 0) 1 44 := by decide +kernel
theorem dBK_44 : Dc cq48 44 (.getfield 32) 3 47 := by decide +kernel
theorem dBK_47 : Dc cq48 47 (.aload_n 1) 1 48 := by decide +kernel
theorem dBK_48 : Dc cq48 48 (.getfield 32) 3 51 := by decide +kernel
theorem dBK_51 : Dc cq48 51 .imul 1 52 := by decide +kernel
theorem dBK_52 : Dc cq48 52 (.invokevirtual 548) 3 55 := by decide +kernel
theorem pd_26 : parseMethodDescriptor "(I)Ljava/math/BigInteger;" = some ⟨[.int], some (.object "java/math/BigInteger")⟩ := by decide +kernel
theorem wd194 {Z a0} (hw : Hw Z a0) : (Cond.methodLink "java/math/BigInteger" 548 ⟨"java/math/MutableBigInteger", "toBigInteger", "(I)Ljava/math/BigInteger;"⟩).before a0 Z = true := hw _ (mg 194 rfl)
theorem wd195 {Z a0} (hw : Hw Z a0) : (Cond.declares ⟨"java/math/MutableBigInteger", "toBigInteger", "(I)Ljava/math/BigInteger;"⟩).before a0 Z = true := hw _ (mg 195 rfl)
theorem wd197 {Z a0} (hw : Hw Z a0) : (Cond.selects "java/math/MutableBigInteger" ⟨"java/math/MutableBigInteger", "toBigInteger", "(I)Ljava/math/BigInteger;"⟩ ⟨"java/math/MutableBigInteger", "toBigInteger", "(I)Ljava/math/BigInteger;"⟩).before a0 Z = true := hw _ (mg 197 rfl)
theorem wd196 {Z a0} (hw : Hw Z a0) : (Cond.instanceMethod ⟨"java/math/MutableBigInteger", "toBigInteger", "(I)Ljava/math/BigInteger;"⟩).before a0 Z = true := hw _ (mg 196 rfl)
theorem wd198 {Z a0} (hw : Hw Z a0) : (Cond.code ⟨"java/math/MutableBigInteger", "toBigInteger", "(I)Ljava/math/BigInteger;"⟩ jdk_2101_method_9_code 2 (Option.some (.object "java/math/BigInteger"))).before a0 Z = true := hw _ (mg 198 rfl)
theorem dBK_55 : Dc cq48 55 .areturn 1 56 := by decide +kernel
theorem efBK (m : MethodId) (x0 : Addr) (x1 : Addr) : entryFrame m #[.ref x0, .ref x1] 5 = mkF m 0 #[.val (.ref x0), .val (.ref x1), .unset, .unset, .unset] [] := by first | (simp [entryFrame, mkF, argsToLocals, Value.category]; done) | rfl
theorem pnBK : plainFor (⟨"java/math/BigInteger", "divideKnuth", "(Ljava/math/BigInteger;)Ljava/math/BigInteger;"⟩ : MethodName) = true := plainFor_of_name (by first | (simp [plainName, overriddenIn]; done) | decide +kernel)
theorem dBD_0 : Dc cq49 0 (.aload_n 1) 1 1 := by decide +kernel
theorem dBD_1 : Dc cq49 1 (.getfield 28) 3 4 := by decide +kernel
theorem dBD_4 : Dc cq49 4 .arraylength 1 5 := by decide +kernel
theorem dBD_5 : Dc cq49 5 (.bipush 80) 2 7 := by decide +kernel
theorem dBD_7 : Db cq49 7 (.if_icmp .lt 19) 19 10 26 := by decide +kernel
theorem dBD_26 : Dc cq49 26 (.aload_n 0) 1 27 := by decide +kernel
theorem dBD_27 : Dc cq49 27 (.aload_n 1) 1 28 := by decide +kernel
theorem dBD_28 : Dc cq49 28 (.invokevirtual 535) 3 31 := by decide +kernel
theorem pd_27 : parseMethodDescriptor "(Ljava/math/BigInteger;)Ljava/math/BigInteger;" = some ⟨[(.object "java/math/BigInteger")], some (.object "java/math/BigInteger")⟩ := by decide +kernel
theorem wd145 {Z a0} (hw : Hw Z a0) : (Cond.methodLink "java/math/BigInteger" 535 ⟨"java/math/BigInteger", "divideKnuth", "(Ljava/math/BigInteger;)Ljava/math/BigInteger;"⟩).before a0 Z = true := hw _ (mg 145 rfl)
theorem wd147 {Z a0} (hw : Hw Z a0) : (Cond.privateMethod ⟨"java/math/BigInteger", "divideKnuth", "(Ljava/math/BigInteger;)Ljava/math/BigInteger;"⟩).before a0 Z = true := hw _ (mg 147 rfl)
theorem wd148 {Z a0} (hw : Hw Z a0) : (Cond.selects "java/math/BigInteger" ⟨"java/math/BigInteger", "divideKnuth", "(Ljava/math/BigInteger;)Ljava/math/BigInteger;"⟩ ⟨"java/math/BigInteger", "divideKnuth", "(Ljava/math/BigInteger;)Ljava/math/BigInteger;"⟩).before a0 Z = true := hw _ (mg 148 rfl)
theorem wd146 {Z a0} (hw : Hw Z a0) : (Cond.instanceMethod ⟨"java/math/BigInteger", "divideKnuth", "(Ljava/math/BigInteger;)Ljava/math/BigInteger;"⟩).before a0 Z = true := hw _ (mg 146 rfl)
theorem wd149 {Z a0} (hw : Hw Z a0) : (Cond.code ⟨"java/math/BigInteger", "divideKnuth", "(Ljava/math/BigInteger;)Ljava/math/BigInteger;"⟩ jdk_2097_method_62_code 5 (Option.some (.object "java/math/BigInteger"))).before a0 Z = true := hw _ (mg 149 rfl)
theorem dBD_31 : Dc cq49 31 .areturn 1 32 := by decide +kernel
theorem efBD (m : MethodId) (x0 : Addr) (x1 : Addr) : entryFrame m #[.ref x0, .ref x1] 2 = mkF m 0 #[.val (.ref x0), .val (.ref x1)] [] := by first | (simp [entryFrame, mkF, argsToLocals, Value.category]; done) | rfl
theorem pnBD : plainFor (⟨"java/math/BigInteger", "divide", "(Ljava/math/BigInteger;)Ljava/math/BigInteger;"⟩ : MethodName) = true := plainFor_of_name (by first | (simp [plainName, overriddenIn]; done) | decide +kernel)
theorem dDI_0 : Dc cq50 0 (.aload_n 0) 1 1 := by decide +kernel
theorem dDI_1 : Dc cq50 1 (.invokespecial 1) 3 4 := by decide +kernel
theorem wd76 {Z a0} (hw : Hw Z a0) : (Cond.methodLink "com/example/entry_by_measure/entrybymeasure/service/Divisor" 1 ⟨"java/lang/Object", "<init>", "()V"⟩).before a0 Z = true := hw _ (mg 76 rfl)
theorem dDI_4 : Dc cq50 4 (.bipush 64) 2 6 := by decide +kernel
theorem dDI_6 : Dc cq50 6 (.lload_n 1) 1 7 := by decide +kernel
theorem dDI_7 : Dc cq50 7 (.lconst 1) 1 8 := by decide +kernel
theorem dDI_8 : Dc cq50 8 .lsub 1 9 := by decide +kernel
theorem dDI_9 : Dc cq50 9 (.invokestatic 7) 3 12 := by decide +kernel
theorem wd79 {Z a0} (hw : Hw Z a0) : (Cond.initialized "java/lang/Long").before a0 Z = true := hw _ (mg 79 rfl)
theorem pd_28 : parseMethodDescriptor "(J)I" = some ⟨[.long], some .int⟩ := by decide +kernel
theorem wd77 {Z a0} (hw : Hw Z a0) : (Cond.methodLink "com/example/entry_by_measure/entrybymeasure/service/Divisor" 7 ⟨"java/lang/Long", "numberOfLeadingZeros", "(J)I"⟩).before a0 Z = true := hw _ (mg 77 rfl)
theorem wd78 {Z a0} (hw : Hw Z a0) : (Cond.static ⟨"java/lang/Long", "numberOfLeadingZeros", "(J)I"⟩).before a0 Z = true := hw _ (mg 78 rfl)
theorem wd80 {Z a0} (hw : Hw Z a0) : (Cond.code ⟨"java/lang/Long", "numberOfLeadingZeros", "(J)I"⟩ jdk_35_method_48_code 3 (Option.some .int)).before a0 Z = true := hw _ (mg 80 rfl)
theorem dDI_12 : Dc cq50 12 .isub 1 13 := by decide +kernel
theorem dDI_13 : Dc cq50 13 (.istore_n 3) 1 14 := by decide +kernel
theorem dDI_14 : Dc cq50 14 (.aload_n 0) 1 15 := by decide +kernel
theorem dDI_15 : Dc cq50 15 (.lload_n 1) 1 16 := by decide +kernel
theorem dDI_16 : Dc cq50 16 (.putfield 13) 3 19 := by decide +kernel
theorem wd87 {Z a0} (hw : Hw Z a0) : (Cond.laysFinal "com/example/entry_by_measure/entrybymeasure/service/Divisor" "com/example/entry_by_measure/entrybymeasure/service/Divisor" "divisor" "J").before a0 Z = true := hw _ (mg 87 rfl)
theorem wd71 {Z a0} (hw : Hw Z a0) : (Cond.instantiable "com/example/entry_by_measure/entrybymeasure/service/Divisor" 3).before a0 Z = true := hw _ (mg 71 rfl)
theorem wd234 {Z a0} (hw : Hw Z a0) : (Cond.laysFinal "com/example/entry_by_measure/entrybymeasure/service/Divisor" "com/example/entry_by_measure/entrybymeasure/service/Divisor" "multiplier" "J").before a0 Z = true := hw _ (mg 234 rfl)
theorem wd92 {Z a0} (hw : Hw Z a0) : (Cond.laysFinal "com/example/entry_by_measure/entrybymeasure/service/Divisor" "com/example/entry_by_measure/entrybymeasure/service/Divisor" "shift" "I").before a0 Z = true := hw _ (mg 92 rfl)
theorem dDI_19 : Dc cq50 19 (.aload_n 0) 1 20 := by decide +kernel
theorem dDI_20 : Dc cq50 20 (.iload_n 3) 1 21 := by decide +kernel
theorem dDI_21 : Dc cq50 21 (.iconst 1) 1 22 := by decide +kernel
theorem dDI_22 : Dc cq50 22 .isub 1 23 := by decide +kernel
theorem dDI_23 : Dc cq50 23 (.iconst 0) 1 24 := by decide +kernel
theorem dDI_24 : Dc cq50 24 (.invokestatic 19) 3 27 := by decide +kernel
theorem wd88 {Z a0} (hw : Hw Z a0) : (Cond.methodLink "com/example/entry_by_measure/entrybymeasure/service/Divisor" 19 ⟨"java/lang/Math", "max", "(II)I"⟩).before a0 Z = true := hw _ (mg 88 rfl)
theorem wd89 {Z a0} (hw : Hw Z a0) : (Cond.static ⟨"java/lang/Math", "max", "(II)I"⟩).before a0 Z = true := hw _ (mg 89 rfl)
theorem wd90 {Z a0} (hw : Hw Z a0) : (Cond.code ⟨"java/lang/Math", "max", "(II)I"⟩ jdk_29_method_65_code 2 (Option.some .int)).before a0 Z = true := hw _ (mg 90 rfl)
theorem dDI_27 : Dc cq50 27 (.putfield 25) 3 30 := by decide +kernel
theorem dDI_30 : Dc cq50 30 (.aload_n 0) 1 31 := by decide +kernel
theorem dDI_31 : Dc cq50 31 (.getstatic 29) 3 34 := by decide +kernel
theorem wd93 {Z a0} (hw : Hw Z a0) : (Cond.fieldLink "com/example/entry_by_measure/entrybymeasure/service/Divisor" 29 "java/math/BigInteger" "ONE" "Ljava/math/BigInteger;").before a0 Z = true := hw _ (mg 93 rfl)
theorem dDI_34 : Dc cq50 34 (.bipush 63) 2 36 := by decide +kernel
theorem dDI_36 : Dc cq50 36 (.iload_n 3) 1 37 := by decide +kernel
theorem dDI_37 : Dc cq50 37 .iadd 1 38 := by decide +kernel
theorem dDI_38 : Dc cq50 38 (.invokevirtual 35) 3 41 := by decide +kernel
theorem wd95 {Z a0} (hw : Hw Z a0) : (Cond.methodLink "com/example/entry_by_measure/entrybymeasure/service/Divisor" 35 ⟨"java/math/BigInteger", "shiftLeft", "(I)Ljava/math/BigInteger;"⟩).before a0 Z = true := hw _ (mg 95 rfl)
theorem wd96 {Z a0} (hw : Hw Z a0) : (Cond.declares ⟨"java/math/BigInteger", "shiftLeft", "(I)Ljava/math/BigInteger;"⟩).before a0 Z = true := hw _ (mg 96 rfl)
theorem wd98 {Z a0} (hw : Hw Z a0) : (Cond.selects "java/math/BigInteger" ⟨"java/math/BigInteger", "shiftLeft", "(I)Ljava/math/BigInteger;"⟩ ⟨"java/math/BigInteger", "shiftLeft", "(I)Ljava/math/BigInteger;"⟩).before a0 Z = true := hw _ (mg 98 rfl)
theorem wd97 {Z a0} (hw : Hw Z a0) : (Cond.instanceMethod ⟨"java/math/BigInteger", "shiftLeft", "(I)Ljava/math/BigInteger;"⟩).before a0 Z = true := hw _ (mg 97 rfl)
theorem wd99 {Z a0} (hw : Hw Z a0) : (Cond.code ⟨"java/math/BigInteger", "shiftLeft", "(I)Ljava/math/BigInteger;"⟩ jdk_2097_method_101_code 2 (Option.some (.object "java/math/BigInteger"))).before a0 Z = true := hw _ (mg 99 rfl)
theorem dDI_41 : Dc cq50 41 (.lload_n 1) 1 42 := by decide +kernel
theorem dDI_42 : Dc cq50 42 (.lconst 1) 1 43 := by decide +kernel
theorem dDI_43 : Dc cq50 43 .lsub 1 44 := by decide +kernel
theorem dDI_44 : Dc cq50 44 (.invokestatic 39) 3 47 := by decide +kernel
theorem pd_29 : parseMethodDescriptor "(J)Ljava/math/BigInteger;" = some ⟨[.long], some (.object "java/math/BigInteger")⟩ := by decide +kernel
theorem wd126 {Z a0} (hw : Hw Z a0) : (Cond.methodLink "com/example/entry_by_measure/entrybymeasure/service/Divisor" 39 ⟨"java/math/BigInteger", "valueOf", "(J)Ljava/math/BigInteger;"⟩).before a0 Z = true := hw _ (mg 126 rfl)
theorem wd127 {Z a0} (hw : Hw Z a0) : (Cond.static ⟨"java/math/BigInteger", "valueOf", "(J)Ljava/math/BigInteger;"⟩).before a0 Z = true := hw _ (mg 127 rfl)
theorem wd128 {Z a0} (hw : Hw Z a0) : (Cond.code ⟨"java/math/BigInteger", "valueOf", "(J)Ljava/math/BigInteger;"⟩ jdk_2097_method_29_code 2 (Option.some (.object "java/math/BigInteger"))).before a0 Z = true := hw _ (mg 128 rfl)
theorem dDI_47 : Dc cq50 47 (.invokevirtual 43) 3 50 := by decide +kernel
theorem wd131 {Z a0} (hw : Hw Z a0) : (Cond.methodLink "com/example/entry_by_measure/entrybymeasure/service/Divisor" 43 ⟨"java/math/BigInteger", "add", "(Ljava/math/BigInteger;)Ljava/math/BigInteger;"⟩).before a0 Z = true := hw _ (mg 131 rfl)
theorem wd132 {Z a0} (hw : Hw Z a0) : (Cond.declares ⟨"java/math/BigInteger", "add", "(Ljava/math/BigInteger;)Ljava/math/BigInteger;"⟩).before a0 Z = true := hw _ (mg 132 rfl)
theorem wd134 {Z a0} (hw : Hw Z a0) : (Cond.selects "java/math/BigInteger" ⟨"java/math/BigInteger", "add", "(Ljava/math/BigInteger;)Ljava/math/BigInteger;"⟩ ⟨"java/math/BigInteger", "add", "(Ljava/math/BigInteger;)Ljava/math/BigInteger;"⟩).before a0 Z = true := hw _ (mg 134 rfl)
theorem wd133 {Z a0} (hw : Hw Z a0) : (Cond.instanceMethod ⟨"java/math/BigInteger", "add", "(Ljava/math/BigInteger;)Ljava/math/BigInteger;"⟩).before a0 Z = true := hw _ (mg 133 rfl)
theorem wd135 {Z a0} (hw : Hw Z a0) : (Cond.code ⟨"java/math/BigInteger", "add", "(Ljava/math/BigInteger;)Ljava/math/BigInteger;"⟩ jdk_2097_method_32_code 4 (Option.some (.object "java/math/BigInteger"))).before a0 Z = true := hw _ (mg 135 rfl)
theorem dDI_50 : Dc cq50 50 (.lload_n 1) 1 51 := by decide +kernel
theorem dDI_51 : Dc cq50 51 (.invokestatic 39) 3 54 := by decide +kernel
theorem dDI_54 : Dc cq50 54 (.invokevirtual 47) 3 57 := by decide +kernel
theorem wd140 {Z a0} (hw : Hw Z a0) : (Cond.methodLink "com/example/entry_by_measure/entrybymeasure/service/Divisor" 47 ⟨"java/math/BigInteger", "divide", "(Ljava/math/BigInteger;)Ljava/math/BigInteger;"⟩).before a0 Z = true := hw _ (mg 140 rfl)
theorem wd141 {Z a0} (hw : Hw Z a0) : (Cond.declares ⟨"java/math/BigInteger", "divide", "(Ljava/math/BigInteger;)Ljava/math/BigInteger;"⟩).before a0 Z = true := hw _ (mg 141 rfl)
theorem wd143 {Z a0} (hw : Hw Z a0) : (Cond.selects "java/math/BigInteger" ⟨"java/math/BigInteger", "divide", "(Ljava/math/BigInteger;)Ljava/math/BigInteger;"⟩ ⟨"java/math/BigInteger", "divide", "(Ljava/math/BigInteger;)Ljava/math/BigInteger;"⟩).before a0 Z = true := hw _ (mg 143 rfl)
theorem wd142 {Z a0} (hw : Hw Z a0) : (Cond.instanceMethod ⟨"java/math/BigInteger", "divide", "(Ljava/math/BigInteger;)Ljava/math/BigInteger;"⟩).before a0 Z = true := hw _ (mg 142 rfl)
theorem wd144 {Z a0} (hw : Hw Z a0) : (Cond.code ⟨"java/math/BigInteger", "divide", "(Ljava/math/BigInteger;)Ljava/math/BigInteger;"⟩ jdk_2097_method_61_code 2 (Option.some (.object "java/math/BigInteger"))).before a0 Z = true := hw _ (mg 144 rfl)
theorem dDI_57 : Dc cq50 57 (.invokevirtual 50) 3 60 := by decide +kernel
theorem pd_30 : parseMethodDescriptor "()J" = some ⟨[], some .long⟩ := by decide +kernel
theorem wd223 {Z a0} (hw : Hw Z a0) : (Cond.methodLink "com/example/entry_by_measure/entrybymeasure/service/Divisor" 50 ⟨"java/math/BigInteger", "longValue", "()J"⟩).before a0 Z = true := hw _ (mg 223 rfl)
theorem wd224 {Z a0} (hw : Hw Z a0) : (Cond.declares ⟨"java/math/BigInteger", "longValue", "()J"⟩).before a0 Z = true := hw _ (mg 224 rfl)
theorem wd226 {Z a0} (hw : Hw Z a0) : (Cond.selects "java/math/BigInteger" ⟨"java/math/BigInteger", "longValue", "()J"⟩ ⟨"java/math/BigInteger", "longValue", "()J"⟩).before a0 Z = true := hw _ (mg 226 rfl)
theorem wd225 {Z a0} (hw : Hw Z a0) : (Cond.instanceMethod ⟨"java/math/BigInteger", "longValue", "()J"⟩).before a0 Z = true := hw _ (mg 225 rfl)
theorem wd227 {Z a0} (hw : Hw Z a0) : (Cond.code ⟨"java/math/BigInteger", "longValue", "()J"⟩ jdk_2097_method_136_code 4 (Option.some .long)).before a0 Z = true := hw _ (mg 227 rfl)
theorem dDI_60 : Dc cq50 60 (.putfield 54) 3 63 := by decide +kernel
theorem dDI_63 : Dc cq50 63 .return_ 1 64 := by decide +kernel
theorem efDI (m : MethodId) (x0 : Addr) (x1 : Int64) : entryFrame m #[.ref x0, .long x1] 4 = mkF m 0 #[.val (.ref x0), .val (.long x1), .second, .unset] [] := by first | (simp [entryFrame, mkF, argsToLocals, Value.category]; done) | rfl
theorem pnDI : plainFor (⟨"com/example/entry_by_measure/entrybymeasure/service/Divisor", "<init>", "(J)V"⟩ : MethodName) = true := plainFor_of_name (by first | (simp [plainName, overriddenIn]; done) | decide +kernel)
theorem dS3_0 : Dc cq51 0 (.aload_n 0) 1 1 := by decide +kernel
theorem dS3_1 : Dc cq51 1 (.invokespecial 19) 3 4 := by decide +kernel
theorem wd61 {Z a0} (hw : Hw Z a0) : (Cond.methodLink "com/example/entry_by_measure/entrybymeasure/service/TokenBucket$Shape" 19 ⟨"java/lang/Object", "<init>", "()V"⟩).before a0 Z = true := hw _ (mg 61 rfl)
theorem dS3_4 : Dc cq51 4 (.aload_n 0) 1 5 := by decide +kernel
theorem dS3_5 : Dc cq51 5 (.lload_n 1) 1 6 := by decide +kernel
theorem dS3_6 : Dc cq51 6 (.putfield 24) 3 9 := by decide +kernel
theorem wd63 {Z a0} (hw : Hw Z a0) : (Cond.laysFinal "com/example/entry_by_measure/entrybymeasure/service/TokenBucket$Shape" "com/example/entry_by_measure/entrybymeasure/service/TokenBucket$Shape" "capacity" "J").before a0 Z = true := hw _ (mg 63 rfl)
theorem wd62 {Z a0} (hw : Hw Z a0) : (Cond.fieldLink "com/example/entry_by_measure/entrybymeasure/service/TokenBucket$Shape" 24 "com/example/entry_by_measure/entrybymeasure/service/TokenBucket$Shape" "capacity" "J").before a0 Z = true := hw _ (mg 62 rfl)
theorem wd6 {Z a0} (hw : Hw Z a0) : (Cond.instantiable "com/example/entry_by_measure/entrybymeasure/service/TokenBucket$Shape" 8).before a0 Z = true := hw _ (mg 6 rfl)
theorem wd65 {Z a0} (hw : Hw Z a0) : (Cond.laysFinal "com/example/entry_by_measure/entrybymeasure/service/TokenBucket$Shape" "com/example/entry_by_measure/entrybymeasure/service/TokenBucket$Shape" "perToken" "J").before a0 Z = true := hw _ (mg 65 rfl)
theorem wd67 {Z a0} (hw : Hw Z a0) : (Cond.laysFinal "com/example/entry_by_measure/entrybymeasure/service/TokenBucket$Shape" "com/example/entry_by_measure/entrybymeasure/service/TokenBucket$Shape" "refillParts" "J").before a0 Z = true := hw _ (mg 67 rfl)
theorem wd69 {Z a0} (hw : Hw Z a0) : (Cond.laysFinal "com/example/entry_by_measure/entrybymeasure/service/TokenBucket$Shape" "com/example/entry_by_measure/entrybymeasure/service/TokenBucket$Shape" "fullParts" "J").before a0 Z = true := hw _ (mg 69 rfl)
theorem wd236 {Z a0} (hw : Hw Z a0) : (Cond.laysFinal "com/example/entry_by_measure/entrybymeasure/service/TokenBucket$Shape" "com/example/entry_by_measure/entrybymeasure/service/TokenBucket$Shape" "token" "Lcom/example/entry_by_measure/entrybymeasure/service/Divisor;").before a0 Z = true := hw _ (mg 236 rfl)
theorem wd282 {Z a0} (hw : Hw Z a0) : (Cond.laysFinal "com/example/entry_by_measure/entrybymeasure/service/TokenBucket$Shape" "com/example/entry_by_measure/entrybymeasure/service/TokenBucket$Shape" "refill" "Lcom/example/entry_by_measure/entrybymeasure/service/Divisor;").before a0 Z = true := hw _ (mg 282 rfl)
theorem wd298 {Z a0} (hw : Hw Z a0) : (Cond.laysFinal "com/example/entry_by_measure/entrybymeasure/service/TokenBucket$Shape" "com/example/entry_by_measure/entrybymeasure/service/TokenBucket$Shape" "oneTakenFullInMillis" "J").before a0 Z = true := hw _ (mg 298 rfl)
theorem wd320 {Z a0} (hw : Hw Z a0) : (Cond.laysFinal "com/example/entry_by_measure/entrybymeasure/service/TokenBucket$Shape" "com/example/entry_by_measure/entrybymeasure/service/TokenBucket$Shape" "oneTaken" "Lcom/example/entry_by_measure/entrybymeasure/model/Decision;").before a0 Z = true := hw _ (mg 320 rfl)
theorem dS3_9 : Dc cq51 9 (.aload_n 0) 1 10 := by decide +kernel
theorem dS3_10 : Dc cq51 10 (.lload 5) 2 12 := by decide +kernel
theorem dS3_12 : Dc cq51 12 (.putfield 27) 3 15 := by decide +kernel
theorem wd64 {Z a0} (hw : Hw Z a0) : (Cond.fieldLink "com/example/entry_by_measure/entrybymeasure/service/TokenBucket$Shape" 27 "com/example/entry_by_measure/entrybymeasure/service/TokenBucket$Shape" "perToken" "J").before a0 Z = true := hw _ (mg 64 rfl)
theorem dS3_15 : Dc cq51 15 (.aload_n 0) 1 16 := by decide +kernel
theorem dS3_16 : Dc cq51 16 (.lload_n 3) 1 17 := by decide +kernel
theorem dS3_17 : Dc cq51 17 (.putfield 30) 3 20 := by decide +kernel
theorem wd66 {Z a0} (hw : Hw Z a0) : (Cond.fieldLink "com/example/entry_by_measure/entrybymeasure/service/TokenBucket$Shape" 30 "com/example/entry_by_measure/entrybymeasure/service/TokenBucket$Shape" "refillParts" "J").before a0 Z = true := hw _ (mg 66 rfl)
theorem dS3_20 : Dc cq51 20 (.aload_n 0) 1 21 := by decide +kernel
theorem dS3_21 : Dc cq51 21 (.lload_n 1) 1 22 := by decide +kernel
theorem dS3_22 : Dc cq51 22 (.lload 5) 2 24 := by decide +kernel
theorem dS3_24 : Dc cq51 24 .lmul 1 25 := by decide +kernel
theorem dS3_25 : Dc cq51 25 (.putfield 33) 3 28 := by decide +kernel
theorem dS3_28 : Dc cq51 28 (.aload_n 0) 1 29 := by decide +kernel
theorem dS3_29 : Dc cq51 29 (.new 36) 3 32 := by decide +kernel
theorem wd70 {Z a0} (hw : Hw Z a0) : (Cond.classLink "com/example/entry_by_measure/entrybymeasure/service/TokenBucket$Shape" 36 "com/example/entry_by_measure/entrybymeasure/service/Divisor").before a0 Z = true := hw _ (mg 70 rfl)
theorem dS3_32 : Dc cq51 32 .dup 1 33 := by decide +kernel
theorem dS3_33 : Dc cq51 33 (.lload 5) 2 35 := by decide +kernel
theorem dS3_35 : Dc cq51 35 (.invokespecial 38) 3 38 := by decide +kernel
theorem wd73 {Z a0} (hw : Hw Z a0) : (Cond.methodLink "com/example/entry_by_measure/entrybymeasure/service/TokenBucket$Shape" 38 ⟨"com/example/entry_by_measure/entrybymeasure/service/Divisor", "<init>", "(J)V"⟩).before a0 Z = true := hw _ (mg 73 rfl)
theorem wd74 {Z a0} (hw : Hw Z a0) : (Cond.instanceMethod ⟨"com/example/entry_by_measure/entrybymeasure/service/Divisor", "<init>", "(J)V"⟩).before a0 Z = true := hw _ (mg 74 rfl)
theorem wd75 {Z a0} (hw : Hw Z a0) : (Cond.code ⟨"com/example/entry_by_measure/entrybymeasure/service/Divisor", "<init>", "(J)V"⟩ prog_44_method_1_code 4 (Option.none : Option Jvm.ClassFile.FieldType)).before a0 Z = true := hw _ (mg 75 rfl)
theorem dS3_38 : Dc cq51 38 (.putfield 41) 3 41 := by decide +kernel
theorem wd235 {Z a0} (hw : Hw Z a0) : (Cond.fieldLink "com/example/entry_by_measure/entrybymeasure/service/TokenBucket$Shape" 41 "com/example/entry_by_measure/entrybymeasure/service/TokenBucket$Shape" "token" "Lcom/example/entry_by_measure/entrybymeasure/service/Divisor;").before a0 Z = true := hw _ (mg 235 rfl)
theorem dS3_41 : Dc cq51 41 (.aload_n 0) 1 42 := by decide +kernel
theorem dS3_42 : Dc cq51 42 (.new 36) 3 45 := by decide +kernel
theorem dS3_45 : Dc cq51 45 .dup 1 46 := by decide +kernel
theorem dS3_46 : Dc cq51 46 (.lload_n 3) 1 47 := by decide +kernel
theorem dS3_47 : Dc cq51 47 (.invokespecial 38) 3 50 := by decide +kernel
theorem dS3_50 : Dc cq51 50 (.putfield 45) 3 53 := by decide +kernel
theorem wd281 {Z a0} (hw : Hw Z a0) : (Cond.fieldLink "com/example/entry_by_measure/entrybymeasure/service/TokenBucket$Shape" 45 "com/example/entry_by_measure/entrybymeasure/service/TokenBucket$Shape" "refill" "Lcom/example/entry_by_measure/entrybymeasure/service/Divisor;").before a0 Z = true := hw _ (mg 281 rfl)
theorem dS3_53 : Dc cq51 53 (.aload_n 0) 1 54 := by decide +kernel
theorem dS3_54 : Dc cq51 54 (.aload_n 0) 1 55 := by decide +kernel
theorem dS3_55 : Dc cq51 55 (.getfield 45) 3 58 := by decide +kernel
theorem dS3_58 : Dc cq51 58 (.lload 5) 2 60 := by decide +kernel
theorem dS3_60 : Dc cq51 60 (.invokevirtual 47) 3 63 := by decide +kernel
theorem wd283 {Z a0} (hw : Hw Z a0) : (Cond.methodLink "com/example/entry_by_measure/entrybymeasure/service/TokenBucket$Shape" 47 ⟨"com/example/entry_by_measure/entrybymeasure/service/Divisor", "divideUp", "(J)J"⟩).before a0 Z = true := hw _ (mg 283 rfl)
theorem wd284 {Z a0} (hw : Hw Z a0) : (Cond.declares ⟨"com/example/entry_by_measure/entrybymeasure/service/Divisor", "divideUp", "(J)J"⟩).before a0 Z = true := hw _ (mg 284 rfl)
theorem wd286 {Z a0} (hw : Hw Z a0) : (Cond.selects "com/example/entry_by_measure/entrybymeasure/service/Divisor" ⟨"com/example/entry_by_measure/entrybymeasure/service/Divisor", "divideUp", "(J)J"⟩ ⟨"com/example/entry_by_measure/entrybymeasure/service/Divisor", "divideUp", "(J)J"⟩).before a0 Z = true := hw _ (mg 286 rfl)
theorem wd285 {Z a0} (hw : Hw Z a0) : (Cond.instanceMethod ⟨"com/example/entry_by_measure/entrybymeasure/service/Divisor", "divideUp", "(J)J"⟩).before a0 Z = true := hw _ (mg 285 rfl)
theorem wd287 {Z a0} (hw : Hw Z a0) : (Cond.code ⟨"com/example/entry_by_measure/entrybymeasure/service/Divisor", "divideUp", "(J)J"⟩ prog_44_method_3_code 5 (Option.some .long)).before a0 Z = true := hw _ (mg 287 rfl)
theorem dS3_63 : Dc cq51 63 (.putfield 51) 3 66 := by decide +kernel
theorem wd297 {Z a0} (hw : Hw Z a0) : (Cond.fieldLink "com/example/entry_by_measure/entrybymeasure/service/TokenBucket$Shape" 51 "com/example/entry_by_measure/entrybymeasure/service/TokenBucket$Shape" "oneTakenFullInMillis" "J").before a0 Z = true := hw _ (mg 297 rfl)
theorem dS3_66 : Dc cq51 66 (.aload_n 0) 1 67 := by decide +kernel
theorem dS3_67 : Dc cq51 67 (.lload_n 1) 1 68 := by decide +kernel
theorem dS3_68 : Dc cq51 68 (.lconst 1) 1 69 := by decide +kernel
theorem dS3_69 : Dc cq51 69 .lsub 1 70 := by decide +kernel
theorem dS3_70 : Dc cq51 70 (.aload_n 0) 1 71 := by decide +kernel
theorem dS3_71 : Dc cq51 71 (.getfield 51) 3 74 := by decide +kernel
theorem dS3_74 : Dc cq51 74 (.invokestatic 54) 3 77 := by decide +kernel
theorem pd_31 : parseMethodDescriptor "(JJ)Lcom/example/entry_by_measure/entrybymeasure/model/Decision;" = some ⟨[.long, .long], some (.object "com/example/entry_by_measure/entrybymeasure/model/Decision")⟩ := by decide +kernel
theorem wd299 {Z a0} (hw : Hw Z a0) : (Cond.methodLink "com/example/entry_by_measure/entrybymeasure/service/TokenBucket$Shape" 54 ⟨"com/example/entry_by_measure/entrybymeasure/model/Decision", "allowed", "(JJ)Lcom/example/entry_by_measure/entrybymeasure/model/Decision;"⟩).before a0 Z = true := hw _ (mg 299 rfl)
theorem wd300 {Z a0} (hw : Hw Z a0) : (Cond.static ⟨"com/example/entry_by_measure/entrybymeasure/model/Decision", "allowed", "(JJ)Lcom/example/entry_by_measure/entrybymeasure/model/Decision;"⟩).before a0 Z = true := hw _ (mg 300 rfl)
theorem wd302 {Z a0} (hw : Hw Z a0) : (Cond.code ⟨"com/example/entry_by_measure/entrybymeasure/model/Decision", "allowed", "(JJ)Lcom/example/entry_by_measure/entrybymeasure/model/Decision;"⟩ prog_16_method_3_code 4 (Option.some (.object "com/example/entry_by_measure/entrybymeasure/model/Decision"))).before a0 Z = true := hw _ (mg 302 rfl)
theorem dS3_77 : Dc cq51 77 (.putfield 60) 3 80 := by decide +kernel
theorem wd319 {Z a0} (hw : Hw Z a0) : (Cond.fieldLink "com/example/entry_by_measure/entrybymeasure/service/TokenBucket$Shape" 60 "com/example/entry_by_measure/entrybymeasure/service/TokenBucket$Shape" "oneTaken" "Lcom/example/entry_by_measure/entrybymeasure/model/Decision;").before a0 Z = true := hw _ (mg 319 rfl)
theorem dS3_80 : Dc cq51 80 .return_ 1 81 := by decide +kernel
theorem efS3 (m : MethodId) (x0 : Addr) (x1 : Int64) (x2 : Int64) (x3 : Int64) : entryFrame m #[.ref x0, .long x1, .long x2, .long x3] 7 = mkF m 0 #[.val (.ref x0), .val (.long x1), .second, .val (.long x2), .second, .val (.long x3), .second] [] := by first | (simp [entryFrame, mkF, argsToLocals, Value.category]; done) | rfl
theorem pnS3 : plainFor (⟨"com/example/entry_by_measure/entrybymeasure/service/TokenBucket$Shape", "<init>", "(JJJ)V"⟩ : MethodName) = true := plainFor_of_name (by first | (simp [plainName, overriddenIn]; done) | decide +kernel)
theorem dSB_0 : Dc cq52 0 (.aload_n 0) 1 1 := by decide +kernel
theorem dSB_1 : Dc cq52 1 (.aload_n 1) 1 2 := by decide +kernel
theorem dSB_2 : Dc cq52 2 (.invokevirtual 1) 3 5 := by decide +kernel
theorem wd10 {Z a0} (hw : Hw Z a0) : (Cond.initialized "com/example/entry_by_measure/entrybymeasure/model/BurstRateLimit").before a0 Z = true := hw _ (mg 10 rfl)
theorem wd43 {Z a0} (hw : Hw Z a0) : (Cond.methodLink "com/example/entry_by_measure/entrybymeasure/service/TokenBucket$Shape" 1 ⟨"com/example/entry_by_measure/entrybymeasure/model/BurstRateLimit", "capacity", "()J"⟩).before a0 Z = true := hw _ (mg 43 rfl)
theorem wd44 {Z a0} (hw : Hw Z a0) : (Cond.declares ⟨"com/example/entry_by_measure/entrybymeasure/model/BurstRateLimit", "capacity", "()J"⟩).before a0 Z = true := hw _ (mg 44 rfl)
theorem wd46 {Z a0} (hw : Hw Z a0) : (Cond.selects "com/example/entry_by_measure/entrybymeasure/model/BurstRateLimit" ⟨"com/example/entry_by_measure/entrybymeasure/model/BurstRateLimit", "capacity", "()J"⟩ ⟨"com/example/entry_by_measure/entrybymeasure/model/BurstRateLimit", "capacity", "()J"⟩).before a0 Z = true := hw _ (mg 46 rfl)
theorem wd45 {Z a0} (hw : Hw Z a0) : (Cond.instanceMethod ⟨"com/example/entry_by_measure/entrybymeasure/model/BurstRateLimit", "capacity", "()J"⟩).before a0 Z = true := hw _ (mg 45 rfl)
theorem wd47 {Z a0} (hw : Hw Z a0) : (Cond.code ⟨"com/example/entry_by_measure/entrybymeasure/model/BurstRateLimit", "capacity", "()J"⟩ prog_13_method_2_code 1 (Option.some .long)).before a0 Z = true := hw _ (mg 47 rfl)
theorem dSB_5 : Dc cq52 5 (.aload_n 1) 1 6 := by decide +kernel
theorem dSB_6 : Dc cq52 6 (.invokevirtual 7) 3 9 := by decide +kernel
theorem wd48 {Z a0} (hw : Hw Z a0) : (Cond.methodLink "com/example/entry_by_measure/entrybymeasure/service/TokenBucket$Shape" 7 ⟨"com/example/entry_by_measure/entrybymeasure/model/BurstRateLimit", "refill", "()J"⟩).before a0 Z = true := hw _ (mg 48 rfl)
theorem wd49 {Z a0} (hw : Hw Z a0) : (Cond.declares ⟨"com/example/entry_by_measure/entrybymeasure/model/BurstRateLimit", "refill", "()J"⟩).before a0 Z = true := hw _ (mg 49 rfl)
theorem wd51 {Z a0} (hw : Hw Z a0) : (Cond.selects "com/example/entry_by_measure/entrybymeasure/model/BurstRateLimit" ⟨"com/example/entry_by_measure/entrybymeasure/model/BurstRateLimit", "refill", "()J"⟩ ⟨"com/example/entry_by_measure/entrybymeasure/model/BurstRateLimit", "refill", "()J"⟩).before a0 Z = true := hw _ (mg 51 rfl)
theorem wd50 {Z a0} (hw : Hw Z a0) : (Cond.instanceMethod ⟨"com/example/entry_by_measure/entrybymeasure/model/BurstRateLimit", "refill", "()J"⟩).before a0 Z = true := hw _ (mg 50 rfl)
theorem wd52 {Z a0} (hw : Hw Z a0) : (Cond.code ⟨"com/example/entry_by_measure/entrybymeasure/model/BurstRateLimit", "refill", "()J"⟩ prog_13_method_3_code 1 (Option.some .long)).before a0 Z = true := hw _ (mg 52 rfl)
theorem dSB_9 : Dc cq52 9 (.aload_n 1) 1 10 := by decide +kernel
theorem dSB_10 : Dc cq52 10 (.invokevirtual 10) 3 13 := by decide +kernel
theorem wd53 {Z a0} (hw : Hw Z a0) : (Cond.methodLink "com/example/entry_by_measure/entrybymeasure/service/TokenBucket$Shape" 10 ⟨"com/example/entry_by_measure/entrybymeasure/model/BurstRateLimit", "periodMillis", "()J"⟩).before a0 Z = true := hw _ (mg 53 rfl)
theorem wd54 {Z a0} (hw : Hw Z a0) : (Cond.declares ⟨"com/example/entry_by_measure/entrybymeasure/model/BurstRateLimit", "periodMillis", "()J"⟩).before a0 Z = true := hw _ (mg 54 rfl)
theorem wd56 {Z a0} (hw : Hw Z a0) : (Cond.selects "com/example/entry_by_measure/entrybymeasure/model/BurstRateLimit" ⟨"com/example/entry_by_measure/entrybymeasure/model/BurstRateLimit", "periodMillis", "()J"⟩ ⟨"com/example/entry_by_measure/entrybymeasure/model/BurstRateLimit", "periodMillis", "()J"⟩).before a0 Z = true := hw _ (mg 56 rfl)
theorem wd55 {Z a0} (hw : Hw Z a0) : (Cond.instanceMethod ⟨"com/example/entry_by_measure/entrybymeasure/model/BurstRateLimit", "periodMillis", "()J"⟩).before a0 Z = true := hw _ (mg 55 rfl)
theorem wd57 {Z a0} (hw : Hw Z a0) : (Cond.code ⟨"com/example/entry_by_measure/entrybymeasure/model/BurstRateLimit", "periodMillis", "()J"⟩ prog_13_method_4_code 1 (Option.some .long)).before a0 Z = true := hw _ (mg 57 rfl)
theorem dSB_13 : Dc cq52 13 (.invokespecial 13) 3 16 := by decide +kernel
theorem wd7 {Z a0} (hw : Hw Z a0) : (Cond.initialized "com/example/entry_by_measure/entrybymeasure/service/TokenBucket$Shape").before a0 Z = true := hw _ (mg 7 rfl)
theorem pd_32 : parseMethodDescriptor "(JJJ)V" = some ⟨[.long, .long, .long], none⟩ := by decide +kernel
theorem wd58 {Z a0} (hw : Hw Z a0) : (Cond.methodLink "com/example/entry_by_measure/entrybymeasure/service/TokenBucket$Shape" 13 ⟨"com/example/entry_by_measure/entrybymeasure/service/TokenBucket$Shape", "<init>", "(JJJ)V"⟩).before a0 Z = true := hw _ (mg 58 rfl)
theorem wd59 {Z a0} (hw : Hw Z a0) : (Cond.instanceMethod ⟨"com/example/entry_by_measure/entrybymeasure/service/TokenBucket$Shape", "<init>", "(JJJ)V"⟩).before a0 Z = true := hw _ (mg 59 rfl)
theorem wd60 {Z a0} (hw : Hw Z a0) : (Cond.code ⟨"com/example/entry_by_measure/entrybymeasure/service/TokenBucket$Shape", "<init>", "(JJJ)V"⟩ prog_55_method_2_code 7 (Option.none : Option Jvm.ClassFile.FieldType)).before a0 Z = true := hw _ (mg 60 rfl)
theorem dSB_16 : Dc cq52 16 .return_ 1 17 := by decide +kernel
theorem efSB (m : MethodId) (x0 : Addr) (x1 : Addr) : entryFrame m #[.ref x0, .ref x1] 2 = mkF m 0 #[.val (.ref x0), .val (.ref x1)] [] := by first | (simp [entryFrame, mkF, argsToLocals, Value.category]; done) | rfl
theorem pnSB : plainFor (⟨"com/example/entry_by_measure/entrybymeasure/service/TokenBucket$Shape", "<init>", "(Lcom/example/entry_by_measure/entrybymeasure/model/BurstRateLimit;)V"⟩ : MethodName) = true := plainFor_of_name (by first | (simp [plainName, overriddenIn]; done) | decide +kernel)
theorem d0_0 : Dc code 0 (.lconst 1) 1 1 := by decide +kernel
theorem d0_1 : Dc code 1 (.lload_n 0) 1 2 := by decide +kernel
theorem d0_2 : Dc code 2 (.ldc2_w 9) 3 5 := by decide +kernel
theorem wd0 {Z a0} (hw : Hw Z a0) : (Cond.constantLong "com/example/entry_by_measure/entrybymeasure/service/ShapeHoldsPinLaw" 9 (9223372036854775807 : Int64)).before a0 Z = true := hw _ (mg 0 rfl)
theorem d0_5 : Dc code 5 .land 1 6 := by decide +kernel
theorem d0_6 : Dc code 6 (.invokestatic 11) 3 9 := by decide +kernel
theorem wd1 {Z a0} (hw : Hw Z a0) : (Cond.methodLink "com/example/entry_by_measure/entrybymeasure/service/ShapeHoldsPinLaw" 11 ⟨"java/lang/Math", "max", "(JJ)J"⟩).before a0 Z = true := hw _ (mg 1 rfl)
theorem wd2 {Z a0} (hw : Hw Z a0) : (Cond.static ⟨"java/lang/Math", "max", "(JJ)J"⟩).before a0 Z = true := hw _ (mg 2 rfl)
theorem wd4 {Z a0} (hw : Hw Z a0) : (Cond.code ⟨"java/lang/Math", "max", "(JJ)J"⟩ jdk_29_method_66_code 4 (Option.some .long)).before a0 Z = true := hw _ (mg 4 rfl)
theorem d0_9 : Dc code 9 (.lstore 9) 2 11 := by decide +kernel
theorem d0_11 : Dc code 11 (.lconst 1) 1 12 := by decide +kernel
theorem d0_12 : Dc code 12 (.lload_n 2) 1 13 := by decide +kernel
theorem d0_13 : Dc code 13 (.ldc2_w 9) 3 16 := by decide +kernel
theorem d0_16 : Dc code 16 .land 1 17 := by decide +kernel
theorem d0_17 : Dc code 17 (.ldc2_w 9) 3 20 := by decide +kernel
theorem d0_20 : Dc code 20 (.lload 9) 2 22 := by decide +kernel
theorem d0_22 : Dc code 22 .ldiv 1 23 := by decide +kernel
theorem d0_23 : Dc code 23 .lrem 1 24 := by decide +kernel
theorem d0_24 : Dc code 24 .ladd 1 25 := by decide +kernel
theorem d0_25 : Dc code 25 (.lstore 11) 2 27 := by decide +kernel
theorem d0_27 : Dc code 27 (.lconst 1) 1 28 := by decide +kernel
theorem d0_28 : Dc code 28 (.lload 4) 2 30 := by decide +kernel
theorem d0_30 : Dc code 30 (.ldc2_w 9) 3 33 := by decide +kernel
theorem d0_33 : Dc code 33 .land 1 34 := by decide +kernel
theorem d0_34 : Dc code 34 (.invokestatic 11) 3 37 := by decide +kernel
theorem d0_37 : Dc code 37 (.lstore 13) 2 39 := by decide +kernel
theorem d0_39 : Dc code 39 (.new 17) 3 42 := by decide +kernel
theorem wd5 {Z a0} (hw : Hw Z a0) : (Cond.classLink "com/example/entry_by_measure/entrybymeasure/service/ShapeHoldsPinLaw" 17 "com/example/entry_by_measure/entrybymeasure/service/TokenBucket$Shape").before a0 Z = true := hw _ (mg 5 rfl)
theorem d0_42 : Dc code 42 .dup 1 43 := by decide +kernel
theorem d0_43 : Dc code 43 (.new 19) 3 46 := by decide +kernel
theorem wd8 {Z a0} (hw : Hw Z a0) : (Cond.classLink "com/example/entry_by_measure/entrybymeasure/service/ShapeHoldsPinLaw" 19 "com/example/entry_by_measure/entrybymeasure/model/BurstRateLimit").before a0 Z = true := hw _ (mg 8 rfl)
theorem d0_46 : Dc code 46 .dup 1 47 := by decide +kernel
theorem d0_47 : Dc code 47 (.lload 9) 2 49 := by decide +kernel
theorem d0_49 : Dc code 49 (.lload 13) 2 51 := by decide +kernel
theorem d0_51 : Dc code 51 (.lload 11) 2 53 := by decide +kernel
theorem d0_53 : Dc code 53 (.invokespecial 21) 3 56 := by decide +kernel
theorem wd11 {Z a0} (hw : Hw Z a0) : (Cond.methodLink "com/example/entry_by_measure/entrybymeasure/service/ShapeHoldsPinLaw" 21 ⟨"com/example/entry_by_measure/entrybymeasure/model/BurstRateLimit", "<init>", "(JJJ)V"⟩).before a0 Z = true := hw _ (mg 11 rfl)
theorem wd12 {Z a0} (hw : Hw Z a0) : (Cond.instanceMethod ⟨"com/example/entry_by_measure/entrybymeasure/model/BurstRateLimit", "<init>", "(JJJ)V"⟩).before a0 Z = true := hw _ (mg 12 rfl)
theorem wd13 {Z a0} (hw : Hw Z a0) : (Cond.code ⟨"com/example/entry_by_measure/entrybymeasure/model/BurstRateLimit", "<init>", "(JJJ)V"⟩ prog_13_method_1_code 7 (Option.none : Option Jvm.ClassFile.FieldType)).before a0 Z = true := hw _ (mg 13 rfl)
theorem d0_56 : Dc code 56 (.invokespecial 24) 3 59 := by decide +kernel
theorem pd_33 : parseMethodDescriptor "(Lcom/example/entry_by_measure/entrybymeasure/model/BurstRateLimit;)V" = some ⟨[(.object "com/example/entry_by_measure/entrybymeasure/model/BurstRateLimit")], none⟩ := by decide +kernel
theorem wd40 {Z a0} (hw : Hw Z a0) : (Cond.methodLink "com/example/entry_by_measure/entrybymeasure/service/ShapeHoldsPinLaw" 24 ⟨"com/example/entry_by_measure/entrybymeasure/service/TokenBucket$Shape", "<init>", "(Lcom/example/entry_by_measure/entrybymeasure/model/BurstRateLimit;)V"⟩).before a0 Z = true := hw _ (mg 40 rfl)
theorem wd41 {Z a0} (hw : Hw Z a0) : (Cond.instanceMethod ⟨"com/example/entry_by_measure/entrybymeasure/service/TokenBucket$Shape", "<init>", "(Lcom/example/entry_by_measure/entrybymeasure/model/BurstRateLimit;)V"⟩).before a0 Z = true := hw _ (mg 41 rfl)
theorem wd42 {Z a0} (hw : Hw Z a0) : (Cond.code ⟨"com/example/entry_by_measure/entrybymeasure/service/TokenBucket$Shape", "<init>", "(Lcom/example/entry_by_measure/entrybymeasure/model/BurstRateLimit;)V"⟩ prog_55_method_1_code 2 (Option.none : Option Jvm.ClassFile.FieldType)).before a0 Z = true := hw _ (mg 42 rfl)
theorem d0_59 : Dc code 59 (.astore 15) 2 61 := by decide +kernel
theorem d0_61 : Dc code 61 (.lload 9) 2 63 := by decide +kernel
theorem d0_63 : Dc code 63 (.lload 11) 2 65 := by decide +kernel
theorem d0_65 : Dc code 65 .lmul 1 66 := by decide +kernel
theorem d0_66 : Dc code 66 (.lstore 16) 2 68 := by decide +kernel
theorem d0_68 : Dc code 68 (.iload 8) 2 70 := by decide +kernel
theorem d0_70 : Dc code 70 (.iconst 1) 1 71 := by decide +kernel
theorem d0_71 : Dc code 71 .iand 1 72 := by decide +kernel
theorem d0_72 : Db code 72 (.ifCond .eq 18) 18 75 90 := by decide +kernel
theorem d0_90 : Dc code 90 (.lload 6) 2 92 := by decide +kernel
theorem d0_75 : Dc code 75 (.lload 16) 2 77 := by decide +kernel
theorem d0_77 : Dc code 77 (.ldc2_w 9) 3 80 := by decide +kernel
theorem d0_80 : Dc code 80 .lsub 1 81 := by decide +kernel
theorem d0_81 : Dc code 81 (.iload 8) 2 83 := by decide +kernel
theorem d0_83 : Dc code 83 (.iconst 1) 1 84 := by decide +kernel
theorem d0_84 : Dc code 84 .ishr 1 85 := by decide +kernel
theorem d0_85 : Dc code 85 .i2l 1 86 := by decide +kernel
theorem d0_86 : Dc code 86 .ladd 1 87 := by decide +kernel
theorem d0_87 : Db code 87 (.goto 5) 5 90 92 := by decide +kernel
theorem d0_92 : Dc code 92 (.lstore 18) 2 94 := by decide +kernel
theorem d0_94 : Dc code 94 (.lload 18) 2 96 := by decide +kernel
theorem d0_96 : Dc code 96 (.lconst 0) 1 97 := by decide +kernel
theorem d0_97 : Dc code 97 .lcmp 1 98 := by decide +kernel
theorem d0_98 : Db code 98 (.ifCond .ge 13) 13 101 111 := by decide +kernel
theorem d0_101 : Dc code 101 (.lload 16) 2 103 := by decide +kernel
theorem d0_103 : Dc code 103 (.lload 18) 2 105 := by decide +kernel
theorem d0_105 : Dc code 105 .lsub 1 106 := by decide +kernel
theorem d0_106 : Dc code 106 (.lconst 0) 1 107 := by decide +kernel
theorem d0_107 : Dc code 107 .lcmp 1 108 := by decide +kernel
theorem d0_108 : Db code 108 (.ifCond .le 7) 7 111 115 := by decide +kernel
theorem d0_111 : Dc code 111 (.iconst 1) 1 112 := by decide +kernel
theorem d0_112 : Db code 112 (.goto 4) 4 115 116 := by decide +kernel
theorem d0_115 : Dc code 115 (.iconst 0) 1 116 := by decide +kernel
theorem d0_116 : Dc code 116 (.istore 20) 2 118 := by decide +kernel
theorem d0_118 : Dc code 118 (.aload 15) 2 120 := by decide +kernel
theorem d0_120 : Dc code 120 (.lload 16) 2 122 := by decide +kernel
theorem d0_122 : Dc code 122 (.ldc2_w 9) 3 125 := by decide +kernel
theorem d0_125 : Dc code 125 .lsub 1 126 := by decide +kernel
theorem d0_126 : Dc code 126 (.invokevirtual 27) 3 129 := by decide +kernel
theorem pd_34 : parseMethodDescriptor "(J)Z" = some ⟨[.long], some .boolean⟩ := by decide +kernel
theorem wd321 {Z a0} (hw : Hw Z a0) : (Cond.methodLink "com/example/entry_by_measure/entrybymeasure/service/ShapeHoldsPinLaw" 27 ⟨"com/example/entry_by_measure/entrybymeasure/service/TokenBucket$Shape", "holds", "(J)Z"⟩).before a0 Z = true := hw _ (mg 321 rfl)
theorem wd322 {Z a0} (hw : Hw Z a0) : (Cond.declares ⟨"com/example/entry_by_measure/entrybymeasure/service/TokenBucket$Shape", "holds", "(J)Z"⟩).before a0 Z = true := hw _ (mg 322 rfl)
theorem wd324 {Z a0} (hw : Hw Z a0) : (Cond.selects "com/example/entry_by_measure/entrybymeasure/service/TokenBucket$Shape" ⟨"com/example/entry_by_measure/entrybymeasure/service/TokenBucket$Shape", "holds", "(J)Z"⟩ ⟨"com/example/entry_by_measure/entrybymeasure/service/TokenBucket$Shape", "holds", "(J)Z"⟩).before a0 Z = true := hw _ (mg 324 rfl)
theorem wd323 {Z a0} (hw : Hw Z a0) : (Cond.instanceMethod ⟨"com/example/entry_by_measure/entrybymeasure/service/TokenBucket$Shape", "holds", "(J)Z"⟩).before a0 Z = true := hw _ (mg 323 rfl)
theorem wd325 {Z a0} (hw : Hw Z a0) : (Cond.code ⟨"com/example/entry_by_measure/entrybymeasure/service/TokenBucket$Shape", "holds", "(J)Z"⟩ prog_55_method_6_code 3 (Option.some .boolean)).before a0 Z = true := hw _ (mg 325 rfl)
def sn0 {Z a0} (hw : Hw Z a0) := RoadKit.slot_ne (Or.inr (wd34 hw)) (Or.inr (wd31 hw)) (by decide) (t := .long) (t' := .long) (by decide) (by decide)
def sn1 {Z a0} (hw : Hw Z a0) := RoadKit.slot_ne (Or.inr (wd38 hw)) (Or.inr (wd31 hw)) (by decide) (t := .long) (t' := .long) (by decide) (by decide)
def sn2 {Z a0} (hw : Hw Z a0) := RoadKit.slot_ne (Or.inr (wd31 hw)) (Or.inr (wd34 hw)) (by decide) (t := .long) (t' := .long) (by decide) (by decide)
def sn3 {Z a0} (hw : Hw Z a0) := RoadKit.slot_ne (Or.inr (wd38 hw)) (Or.inr (wd34 hw)) (by decide) (t := .long) (t' := .long) (by decide) (by decide)
def sn4 {Z a0} (hw : Hw Z a0) := RoadKit.slot_ne (Or.inr (wd31 hw)) (Or.inr (wd38 hw)) (by decide) (t := .long) (t' := .long) (by decide) (by decide)
def sn5 {Z a0} (hw : Hw Z a0) := RoadKit.slot_ne (Or.inr (wd34 hw)) (Or.inr (wd38 hw)) (by decide) (t := .long) (t' := .long) (by decide) (by decide)
def sn6 {Z a0} (hw : Hw Z a0) := RoadKit.slot_ne (Or.inr (wd312 hw)) (Or.inr (wd310 hw)) (by decide) (t := .long) (t' := .boolean) (by decide) (by decide)
def sn7 {Z a0} (hw : Hw Z a0) := RoadKit.slot_ne (Or.inr (wd314 hw)) (Or.inr (wd310 hw)) (by decide) (t := .long) (t' := .boolean) (by decide) (by decide)
def sn8 {Z a0} (hw : Hw Z a0) := RoadKit.slot_ne (Or.inr (wd316 hw)) (Or.inr (wd310 hw)) (by decide) (t := .long) (t' := .boolean) (by decide) (by decide)
def sn9 {Z a0} (hw : Hw Z a0) := RoadKit.slot_ne (Or.inr (wd318 hw)) (Or.inr (wd310 hw)) (by decide) (t := (.object "com/example/entry_by_measure/entrybymeasure/model/StoreFailure")) (t' := .boolean) (by decide) (by decide)
def sn10 {Z a0} (hw : Hw Z a0) := RoadKit.slot_ne (Or.inr (wd310 hw)) (Or.inr (wd312 hw)) (by decide) (t := .boolean) (t' := .long) (by decide) (by decide)
def sn11 {Z a0} (hw : Hw Z a0) := RoadKit.slot_ne (Or.inr (wd314 hw)) (Or.inr (wd312 hw)) (by decide) (t := .long) (t' := .long) (by decide) (by decide)
def sn12 {Z a0} (hw : Hw Z a0) := RoadKit.slot_ne (Or.inr (wd316 hw)) (Or.inr (wd312 hw)) (by decide) (t := .long) (t' := .long) (by decide) (by decide)
def sn13 {Z a0} (hw : Hw Z a0) := RoadKit.slot_ne (Or.inr (wd318 hw)) (Or.inr (wd312 hw)) (by decide) (t := (.object "com/example/entry_by_measure/entrybymeasure/model/StoreFailure")) (t' := .long) (by decide) (by decide)
def sn14 {Z a0} (hw : Hw Z a0) := RoadKit.slot_ne (Or.inr (wd310 hw)) (Or.inr (wd314 hw)) (by decide) (t := .boolean) (t' := .long) (by decide) (by decide)
def sn15 {Z a0} (hw : Hw Z a0) := RoadKit.slot_ne (Or.inr (wd312 hw)) (Or.inr (wd314 hw)) (by decide) (t := .long) (t' := .long) (by decide) (by decide)
def sn16 {Z a0} (hw : Hw Z a0) := RoadKit.slot_ne (Or.inr (wd316 hw)) (Or.inr (wd314 hw)) (by decide) (t := .long) (t' := .long) (by decide) (by decide)
def sn17 {Z a0} (hw : Hw Z a0) := RoadKit.slot_ne (Or.inr (wd318 hw)) (Or.inr (wd314 hw)) (by decide) (t := (.object "com/example/entry_by_measure/entrybymeasure/model/StoreFailure")) (t' := .long) (by decide) (by decide)
def sn18 {Z a0} (hw : Hw Z a0) := RoadKit.slot_ne (Or.inr (wd310 hw)) (Or.inr (wd316 hw)) (by decide) (t := .boolean) (t' := .long) (by decide) (by decide)
def sn19 {Z a0} (hw : Hw Z a0) := RoadKit.slot_ne (Or.inr (wd312 hw)) (Or.inr (wd316 hw)) (by decide) (t := .long) (t' := .long) (by decide) (by decide)
def sn20 {Z a0} (hw : Hw Z a0) := RoadKit.slot_ne (Or.inr (wd314 hw)) (Or.inr (wd316 hw)) (by decide) (t := .long) (t' := .long) (by decide) (by decide)
def sn21 {Z a0} (hw : Hw Z a0) := RoadKit.slot_ne (Or.inr (wd318 hw)) (Or.inr (wd316 hw)) (by decide) (t := (.object "com/example/entry_by_measure/entrybymeasure/model/StoreFailure")) (t' := .long) (by decide) (by decide)
def sn22 {Z a0} (hw : Hw Z a0) := RoadKit.slot_ne (Or.inr (wd310 hw)) (Or.inr (wd318 hw)) (by decide) (t := .boolean) (t' := (.object "com/example/entry_by_measure/entrybymeasure/model/StoreFailure")) (by decide) (by decide)
def sn23 {Z a0} (hw : Hw Z a0) := RoadKit.slot_ne (Or.inr (wd312 hw)) (Or.inr (wd318 hw)) (by decide) (t := .long) (t' := (.object "com/example/entry_by_measure/entrybymeasure/model/StoreFailure")) (by decide) (by decide)
def sn24 {Z a0} (hw : Hw Z a0) := RoadKit.slot_ne (Or.inr (wd314 hw)) (Or.inr (wd318 hw)) (by decide) (t := .long) (t' := (.object "com/example/entry_by_measure/entrybymeasure/model/StoreFailure")) (by decide) (by decide)
def sn25 {Z a0} (hw : Hw Z a0) := RoadKit.slot_ne (Or.inr (wd316 hw)) (Or.inr (wd318 hw)) (by decide) (t := .long) (t' := (.object "com/example/entry_by_measure/entrybymeasure/model/StoreFailure")) (by decide) (by decide)
def sn26 {Z a0} (hw : Hw Z a0) := RoadKit.slot_ne (Or.inr (wd105 hw)) (Or.inr (wd101 hw)) (by decide) (t := (.array .int)) (t' := .int) (by decide) (by decide)
def sn27 {Z a0} (hw : Hw Z a0) := RoadKit.slot_ne (Or.inr (wd101 hw)) (Or.inr (wd105 hw)) (by decide) (t := .int) (t' := (.array .int)) (by decide) (by decide)
def sn28 {Z a0} (hw : Hw Z a0) := RoadKit.slot_ne (Or.inl (wd161 hw)) (Or.inl (wd159 hw)) (by decide) (t := (.array .int)) (t' := .int) (by decide) (by decide)
def sn29 {Z a0} (hw : Hw Z a0) := RoadKit.slot_ne (Or.inl (wd163 hw)) (Or.inl (wd159 hw)) (by decide) (t := .int) (t' := .int) (by decide) (by decide)
def sn30 {Z a0} (hw : Hw Z a0) := RoadKit.slot_ne (Or.inl (wd159 hw)) (Or.inl (wd161 hw)) (by decide) (t := .int) (t' := (.array .int)) (by decide) (by decide)
def sn31 {Z a0} (hw : Hw Z a0) := RoadKit.slot_ne (Or.inl (wd163 hw)) (Or.inl (wd161 hw)) (by decide) (t := .int) (t' := (.array .int)) (by decide) (by decide)
def sn32 {Z a0} (hw : Hw Z a0) := RoadKit.slot_ne (Or.inl (wd159 hw)) (Or.inl (wd163 hw)) (by decide) (t := .int) (t' := .int) (by decide) (by decide)
def sn33 {Z a0} (hw : Hw Z a0) := RoadKit.slot_ne (Or.inl (wd161 hw)) (Or.inl (wd163 hw)) (by decide) (t := (.array .int)) (t' := .int) (by decide) (by decide)
def sn34 {Z a0} (hw : Hw Z a0) := RoadKit.slot_ne (Or.inr (wd234 hw)) (Or.inr (wd87 hw)) (by decide) (t := .long) (t' := .long) (by decide) (by decide)
def sn35 {Z a0} (hw : Hw Z a0) := RoadKit.slot_ne (Or.inr (wd92 hw)) (Or.inr (wd87 hw)) (by decide) (t := .int) (t' := .long) (by decide) (by decide)
def sn36 {Z a0} (hw : Hw Z a0) := RoadKit.slot_ne (Or.inr (wd87 hw)) (Or.inr (wd92 hw)) (by decide) (t := .long) (t' := .int) (by decide) (by decide)
def sn37 {Z a0} (hw : Hw Z a0) := RoadKit.slot_ne (Or.inr (wd234 hw)) (Or.inr (wd92 hw)) (by decide) (t := .long) (t' := .int) (by decide) (by decide)
def sn38 {Z a0} (hw : Hw Z a0) := RoadKit.slot_ne (Or.inr (wd87 hw)) (Or.inr (wd234 hw)) (by decide) (t := .long) (t' := .long) (by decide) (by decide)
def sn39 {Z a0} (hw : Hw Z a0) := RoadKit.slot_ne (Or.inr (wd92 hw)) (Or.inr (wd234 hw)) (by decide) (t := .int) (t' := .long) (by decide) (by decide)
def sn40 {Z a0} (hw : Hw Z a0) := RoadKit.slot_ne (Or.inr (wd65 hw)) (Or.inr (wd63 hw)) (by decide) (t := .long) (t' := .long) (by decide) (by decide)
def sn41 {Z a0} (hw : Hw Z a0) := RoadKit.slot_ne (Or.inr (wd67 hw)) (Or.inr (wd63 hw)) (by decide) (t := .long) (t' := .long) (by decide) (by decide)
def sn42 {Z a0} (hw : Hw Z a0) := RoadKit.slot_ne (Or.inr (wd69 hw)) (Or.inr (wd63 hw)) (by decide) (t := .long) (t' := .long) (by decide) (by decide)
def sn43 {Z a0} (hw : Hw Z a0) := RoadKit.slot_ne (Or.inr (wd236 hw)) (Or.inr (wd63 hw)) (by decide) (t := (.object "com/example/entry_by_measure/entrybymeasure/service/Divisor")) (t' := .long) (by decide) (by decide)
def sn44 {Z a0} (hw : Hw Z a0) := RoadKit.slot_ne (Or.inr (wd282 hw)) (Or.inr (wd63 hw)) (by decide) (t := (.object "com/example/entry_by_measure/entrybymeasure/service/Divisor")) (t' := .long) (by decide) (by decide)
def sn45 {Z a0} (hw : Hw Z a0) := RoadKit.slot_ne (Or.inr (wd298 hw)) (Or.inr (wd63 hw)) (by decide) (t := .long) (t' := .long) (by decide) (by decide)
def sn46 {Z a0} (hw : Hw Z a0) := RoadKit.slot_ne (Or.inr (wd320 hw)) (Or.inr (wd63 hw)) (by decide) (t := (.object "com/example/entry_by_measure/entrybymeasure/model/Decision")) (t' := .long) (by decide) (by decide)
def sn47 {Z a0} (hw : Hw Z a0) := RoadKit.slot_ne (Or.inr (wd63 hw)) (Or.inr (wd65 hw)) (by decide) (t := .long) (t' := .long) (by decide) (by decide)
def sn48 {Z a0} (hw : Hw Z a0) := RoadKit.slot_ne (Or.inr (wd67 hw)) (Or.inr (wd65 hw)) (by decide) (t := .long) (t' := .long) (by decide) (by decide)
def sn49 {Z a0} (hw : Hw Z a0) := RoadKit.slot_ne (Or.inr (wd69 hw)) (Or.inr (wd65 hw)) (by decide) (t := .long) (t' := .long) (by decide) (by decide)
def sn50 {Z a0} (hw : Hw Z a0) := RoadKit.slot_ne (Or.inr (wd236 hw)) (Or.inr (wd65 hw)) (by decide) (t := (.object "com/example/entry_by_measure/entrybymeasure/service/Divisor")) (t' := .long) (by decide) (by decide)
def sn51 {Z a0} (hw : Hw Z a0) := RoadKit.slot_ne (Or.inr (wd282 hw)) (Or.inr (wd65 hw)) (by decide) (t := (.object "com/example/entry_by_measure/entrybymeasure/service/Divisor")) (t' := .long) (by decide) (by decide)
def sn52 {Z a0} (hw : Hw Z a0) := RoadKit.slot_ne (Or.inr (wd298 hw)) (Or.inr (wd65 hw)) (by decide) (t := .long) (t' := .long) (by decide) (by decide)
def sn53 {Z a0} (hw : Hw Z a0) := RoadKit.slot_ne (Or.inr (wd320 hw)) (Or.inr (wd65 hw)) (by decide) (t := (.object "com/example/entry_by_measure/entrybymeasure/model/Decision")) (t' := .long) (by decide) (by decide)
def sn54 {Z a0} (hw : Hw Z a0) := RoadKit.slot_ne (Or.inr (wd63 hw)) (Or.inr (wd67 hw)) (by decide) (t := .long) (t' := .long) (by decide) (by decide)
def sn55 {Z a0} (hw : Hw Z a0) := RoadKit.slot_ne (Or.inr (wd65 hw)) (Or.inr (wd67 hw)) (by decide) (t := .long) (t' := .long) (by decide) (by decide)
def sn56 {Z a0} (hw : Hw Z a0) := RoadKit.slot_ne (Or.inr (wd69 hw)) (Or.inr (wd67 hw)) (by decide) (t := .long) (t' := .long) (by decide) (by decide)
def sn57 {Z a0} (hw : Hw Z a0) := RoadKit.slot_ne (Or.inr (wd236 hw)) (Or.inr (wd67 hw)) (by decide) (t := (.object "com/example/entry_by_measure/entrybymeasure/service/Divisor")) (t' := .long) (by decide) (by decide)
def sn58 {Z a0} (hw : Hw Z a0) := RoadKit.slot_ne (Or.inr (wd282 hw)) (Or.inr (wd67 hw)) (by decide) (t := (.object "com/example/entry_by_measure/entrybymeasure/service/Divisor")) (t' := .long) (by decide) (by decide)
def sn59 {Z a0} (hw : Hw Z a0) := RoadKit.slot_ne (Or.inr (wd298 hw)) (Or.inr (wd67 hw)) (by decide) (t := .long) (t' := .long) (by decide) (by decide)
def sn60 {Z a0} (hw : Hw Z a0) := RoadKit.slot_ne (Or.inr (wd320 hw)) (Or.inr (wd67 hw)) (by decide) (t := (.object "com/example/entry_by_measure/entrybymeasure/model/Decision")) (t' := .long) (by decide) (by decide)
def sn61 {Z a0} (hw : Hw Z a0) := RoadKit.slot_ne (Or.inr (wd63 hw)) (Or.inr (wd69 hw)) (by decide) (t := .long) (t' := .long) (by decide) (by decide)
def sn62 {Z a0} (hw : Hw Z a0) := RoadKit.slot_ne (Or.inr (wd65 hw)) (Or.inr (wd69 hw)) (by decide) (t := .long) (t' := .long) (by decide) (by decide)
def sn63 {Z a0} (hw : Hw Z a0) := RoadKit.slot_ne (Or.inr (wd67 hw)) (Or.inr (wd69 hw)) (by decide) (t := .long) (t' := .long) (by decide) (by decide)
def sn64 {Z a0} (hw : Hw Z a0) := RoadKit.slot_ne (Or.inr (wd236 hw)) (Or.inr (wd69 hw)) (by decide) (t := (.object "com/example/entry_by_measure/entrybymeasure/service/Divisor")) (t' := .long) (by decide) (by decide)
def sn65 {Z a0} (hw : Hw Z a0) := RoadKit.slot_ne (Or.inr (wd282 hw)) (Or.inr (wd69 hw)) (by decide) (t := (.object "com/example/entry_by_measure/entrybymeasure/service/Divisor")) (t' := .long) (by decide) (by decide)
def sn66 {Z a0} (hw : Hw Z a0) := RoadKit.slot_ne (Or.inr (wd298 hw)) (Or.inr (wd69 hw)) (by decide) (t := .long) (t' := .long) (by decide) (by decide)
def sn67 {Z a0} (hw : Hw Z a0) := RoadKit.slot_ne (Or.inr (wd320 hw)) (Or.inr (wd69 hw)) (by decide) (t := (.object "com/example/entry_by_measure/entrybymeasure/model/Decision")) (t' := .long) (by decide) (by decide)
def sn68 {Z a0} (hw : Hw Z a0) := RoadKit.slot_ne (Or.inr (wd63 hw)) (Or.inr (wd236 hw)) (by decide) (t := .long) (t' := (.object "com/example/entry_by_measure/entrybymeasure/service/Divisor")) (by decide) (by decide)
def sn69 {Z a0} (hw : Hw Z a0) := RoadKit.slot_ne (Or.inr (wd65 hw)) (Or.inr (wd236 hw)) (by decide) (t := .long) (t' := (.object "com/example/entry_by_measure/entrybymeasure/service/Divisor")) (by decide) (by decide)
def sn70 {Z a0} (hw : Hw Z a0) := RoadKit.slot_ne (Or.inr (wd67 hw)) (Or.inr (wd236 hw)) (by decide) (t := .long) (t' := (.object "com/example/entry_by_measure/entrybymeasure/service/Divisor")) (by decide) (by decide)
def sn71 {Z a0} (hw : Hw Z a0) := RoadKit.slot_ne (Or.inr (wd69 hw)) (Or.inr (wd236 hw)) (by decide) (t := .long) (t' := (.object "com/example/entry_by_measure/entrybymeasure/service/Divisor")) (by decide) (by decide)
def sn72 {Z a0} (hw : Hw Z a0) := RoadKit.slot_ne (Or.inr (wd282 hw)) (Or.inr (wd236 hw)) (by decide) (t := (.object "com/example/entry_by_measure/entrybymeasure/service/Divisor")) (t' := (.object "com/example/entry_by_measure/entrybymeasure/service/Divisor")) (by decide) (by decide)
def sn73 {Z a0} (hw : Hw Z a0) := RoadKit.slot_ne (Or.inr (wd298 hw)) (Or.inr (wd236 hw)) (by decide) (t := .long) (t' := (.object "com/example/entry_by_measure/entrybymeasure/service/Divisor")) (by decide) (by decide)
def sn74 {Z a0} (hw : Hw Z a0) := RoadKit.slot_ne (Or.inr (wd320 hw)) (Or.inr (wd236 hw)) (by decide) (t := (.object "com/example/entry_by_measure/entrybymeasure/model/Decision")) (t' := (.object "com/example/entry_by_measure/entrybymeasure/service/Divisor")) (by decide) (by decide)
def sn75 {Z a0} (hw : Hw Z a0) := RoadKit.slot_ne (Or.inr (wd63 hw)) (Or.inr (wd282 hw)) (by decide) (t := .long) (t' := (.object "com/example/entry_by_measure/entrybymeasure/service/Divisor")) (by decide) (by decide)
def sn76 {Z a0} (hw : Hw Z a0) := RoadKit.slot_ne (Or.inr (wd65 hw)) (Or.inr (wd282 hw)) (by decide) (t := .long) (t' := (.object "com/example/entry_by_measure/entrybymeasure/service/Divisor")) (by decide) (by decide)
def sn77 {Z a0} (hw : Hw Z a0) := RoadKit.slot_ne (Or.inr (wd67 hw)) (Or.inr (wd282 hw)) (by decide) (t := .long) (t' := (.object "com/example/entry_by_measure/entrybymeasure/service/Divisor")) (by decide) (by decide)
def sn78 {Z a0} (hw : Hw Z a0) := RoadKit.slot_ne (Or.inr (wd69 hw)) (Or.inr (wd282 hw)) (by decide) (t := .long) (t' := (.object "com/example/entry_by_measure/entrybymeasure/service/Divisor")) (by decide) (by decide)
def sn79 {Z a0} (hw : Hw Z a0) := RoadKit.slot_ne (Or.inr (wd236 hw)) (Or.inr (wd282 hw)) (by decide) (t := (.object "com/example/entry_by_measure/entrybymeasure/service/Divisor")) (t' := (.object "com/example/entry_by_measure/entrybymeasure/service/Divisor")) (by decide) (by decide)
def sn80 {Z a0} (hw : Hw Z a0) := RoadKit.slot_ne (Or.inr (wd298 hw)) (Or.inr (wd282 hw)) (by decide) (t := .long) (t' := (.object "com/example/entry_by_measure/entrybymeasure/service/Divisor")) (by decide) (by decide)
def sn81 {Z a0} (hw : Hw Z a0) := RoadKit.slot_ne (Or.inr (wd320 hw)) (Or.inr (wd282 hw)) (by decide) (t := (.object "com/example/entry_by_measure/entrybymeasure/model/Decision")) (t' := (.object "com/example/entry_by_measure/entrybymeasure/service/Divisor")) (by decide) (by decide)
def sn82 {Z a0} (hw : Hw Z a0) := RoadKit.slot_ne (Or.inr (wd63 hw)) (Or.inr (wd298 hw)) (by decide) (t := .long) (t' := .long) (by decide) (by decide)
def sn83 {Z a0} (hw : Hw Z a0) := RoadKit.slot_ne (Or.inr (wd65 hw)) (Or.inr (wd298 hw)) (by decide) (t := .long) (t' := .long) (by decide) (by decide)
def sn84 {Z a0} (hw : Hw Z a0) := RoadKit.slot_ne (Or.inr (wd67 hw)) (Or.inr (wd298 hw)) (by decide) (t := .long) (t' := .long) (by decide) (by decide)
def sn85 {Z a0} (hw : Hw Z a0) := RoadKit.slot_ne (Or.inr (wd69 hw)) (Or.inr (wd298 hw)) (by decide) (t := .long) (t' := .long) (by decide) (by decide)
def sn86 {Z a0} (hw : Hw Z a0) := RoadKit.slot_ne (Or.inr (wd236 hw)) (Or.inr (wd298 hw)) (by decide) (t := (.object "com/example/entry_by_measure/entrybymeasure/service/Divisor")) (t' := .long) (by decide) (by decide)
def sn87 {Z a0} (hw : Hw Z a0) := RoadKit.slot_ne (Or.inr (wd282 hw)) (Or.inr (wd298 hw)) (by decide) (t := (.object "com/example/entry_by_measure/entrybymeasure/service/Divisor")) (t' := .long) (by decide) (by decide)
def sn88 {Z a0} (hw : Hw Z a0) := RoadKit.slot_ne (Or.inr (wd320 hw)) (Or.inr (wd298 hw)) (by decide) (t := (.object "com/example/entry_by_measure/entrybymeasure/model/Decision")) (t' := .long) (by decide) (by decide)
def sn89 {Z a0} (hw : Hw Z a0) := RoadKit.slot_ne (Or.inr (wd63 hw)) (Or.inr (wd320 hw)) (by decide) (t := .long) (t' := (.object "com/example/entry_by_measure/entrybymeasure/model/Decision")) (by decide) (by decide)
def sn90 {Z a0} (hw : Hw Z a0) := RoadKit.slot_ne (Or.inr (wd65 hw)) (Or.inr (wd320 hw)) (by decide) (t := .long) (t' := (.object "com/example/entry_by_measure/entrybymeasure/model/Decision")) (by decide) (by decide)
def sn91 {Z a0} (hw : Hw Z a0) := RoadKit.slot_ne (Or.inr (wd67 hw)) (Or.inr (wd320 hw)) (by decide) (t := .long) (t' := (.object "com/example/entry_by_measure/entrybymeasure/model/Decision")) (by decide) (by decide)
def sn92 {Z a0} (hw : Hw Z a0) := RoadKit.slot_ne (Or.inr (wd69 hw)) (Or.inr (wd320 hw)) (by decide) (t := .long) (t' := (.object "com/example/entry_by_measure/entrybymeasure/model/Decision")) (by decide) (by decide)
def sn93 {Z a0} (hw : Hw Z a0) := RoadKit.slot_ne (Or.inr (wd236 hw)) (Or.inr (wd320 hw)) (by decide) (t := (.object "com/example/entry_by_measure/entrybymeasure/service/Divisor")) (t' := (.object "com/example/entry_by_measure/entrybymeasure/model/Decision")) (by decide) (by decide)
def sn94 {Z a0} (hw : Hw Z a0) := RoadKit.slot_ne (Or.inr (wd282 hw)) (Or.inr (wd320 hw)) (by decide) (t := (.object "com/example/entry_by_measure/entrybymeasure/service/Divisor")) (t' := (.object "com/example/entry_by_measure/entrybymeasure/model/Decision")) (by decide) (by decide)
def sn95 {Z a0} (hw : Hw Z a0) := RoadKit.slot_ne (Or.inr (wd298 hw)) (Or.inr (wd320 hw)) (by decide) (t := .long) (t' := (.object "com/example/entry_by_measure/entrybymeasure/model/Decision")) (by decide) (by decide)
theorem d0_129 : Dc code 129 (.istore 21) 2 131 := by decide +kernel
theorem d0_131 : Dc code 131 (.aload 15) 2 133 := by decide +kernel
theorem d0_133 : Dc code 133 (.lload 16) 2 135 := by decide +kernel
theorem d0_135 : Dc code 135 (.ldc2_w 9) 3 138 := by decide +kernel
theorem d0_138 : Dc code 138 .lsub 1 139 := by decide +kernel
theorem d0_139 : Dc code 139 (.lconst 1) 1 140 := by decide +kernel
theorem d0_140 : Dc code 140 .lsub 1 141 := by decide +kernel
theorem d0_141 : Dc code 141 (.invokevirtual 27) 3 144 := by decide +kernel
theorem d0_144 : Dc code 144 (.istore 22) 2 146 := by decide +kernel
theorem d0_146 : Dc code 146 (.aload 15) 2 148 := by decide +kernel
theorem d0_148 : Dc code 148 (.lload 18) 2 150 := by decide +kernel
theorem d0_150 : Dc code 150 (.invokevirtual 27) 3 153 := by decide +kernel
theorem d0_153 : Dc code 153 (.iload 20) 2 155 := by decide +kernel
theorem d0_155 : Db code 155 (.if_icmp .ne 36) 36 158 191 := by decide +kernel
theorem d0_158 : Dc code 158 (.iload 21) 2 160 := by decide +kernel
theorem d0_160 : Db code 160 (.ifCond .eq 31) 31 163 191 := by decide +kernel
theorem d0_163 : Dc code 163 (.iload 22) 2 165 := by decide +kernel
theorem d0_165 : Db code 165 (.ifCond .ne 26) 26 168 191 := by decide +kernel
theorem d0_168 : Dc code 168 (.aload 15) 2 170 := by decide +kernel
theorem d0_170 : Dc code 170 (.lload 16) 2 172 := by decide +kernel
theorem d0_172 : Dc code 172 (.invokevirtual 27) 3 175 := by decide +kernel
theorem d0_175 : Db code 175 (.ifCond .eq 16) 16 178 191 := by decide +kernel
theorem d0_178 : Dc code 178 (.aload 15) 2 180 := by decide +kernel
theorem d0_180 : Dc code 180 (.lconst 0) 1 181 := by decide +kernel
theorem d0_181 : Dc code 181 (.invokevirtual 27) 3 184 := by decide +kernel
theorem d0_184 : Db code 184 (.ifCond .eq 7) 7 187 191 := by decide +kernel
theorem d0_187 : Dc code 187 (.iconst 1) 1 188 := by decide +kernel
theorem d0_188 : Db code 188 (.goto 4) 4 191 192 := by decide +kernel
theorem d0_192 : Dc code 192 .ireturn 1 193 := by decide +kernel
theorem ef0 (m : MethodId) (x0 : Int64) (x1 : Int64) (x2 : Int64) (x3 : Int64) (x4 : Int32) : entryFrame m #[.long x0, .long x1, .long x2, .long x3, .int x4] maxLocals = mkF m 0 #[.val (.long x0), .second, .val (.long x1), .second, .val (.long x2), .second, .val (.long x3), .second, .val (.int x4), .unset, .unset, .unset, .unset, .unset, .unset, .unset, .unset, .unset, .unset, .unset, .unset, .unset, .unset] [] := by first | (simp [entryFrame, mkF, argsToLocals, Value.category, maxLocals]; done) | rfl
theorem pn0 : plainFor (x : MethodName) = true := plainFor_of_name (by show plainName "com/example/entry_by_measure/entrybymeasure/service/ShapeHoldsPinLaw" = true; first | (simp [plainName, overriddenIn]; done) | decide +kernel)
def own_max (x y : Int64) : Int64 := if x < y then y else x
theorem own_m1 {x y : Int64} (h : x < y) : own_max x y = y := if_pos h
theorem own_m0 {x y : Int64} (h : ¬ x < y) : own_max x y = x := if_neg h
theorem own_c0 : (0 : Int64).toInt = 0 := rfl
theorem own_c1 : (1 : Int64).toInt = 1 := rfl
theorem own_cM : (9223372036854775807 : Int64).toInt = 9223372036854775807 := rfl
theorem own_pos (x : Int64) : 1 ≤ (own_max 1 (x &&& 9223372036854775807)).toInt := by
  unfold own_max
  split
  · rename_i h; rw [Int64.lt_iff_toInt_lt, own_c1] at h; omega
  · rw [own_c1]; omega
theorem own_div {x y : Int64} (hx : 0 ≤ x.toInt) (hy : 1 ≤ y.toInt) : (x / y).toInt = x.toInt / y.toInt := (c_ldiv x y _ rfl (fun q => by rw [q] at hy; exact absurd hy (by decide))).1 hx
theorem own_mod {x y : Int64} (hx : 0 ≤ x.toInt) : (x % y).toInt = x.toInt % y.toInt := by
  rw [Int64.toInt_mod]; exact (tr _ _).1 hx
theorem own_ne {y : Int64} (hy : 1 ≤ y.toInt) : y ≠ 0 := fun q => by rw [q] at hy; exact absurd hy (by decide)
theorem own_add {a b : Int64} {A B : Int} (ha : a.toInt = A) (hb : b.toInt = B) (h1 : -9223372036854775808 ≤ A + B) (h2 : A + B < 9223372036854775808) : (a + b).toInt = A + B := by
  have := c_ladd a b; have := rng64 (a + b); omega
theorem own_sub {a b : Int64} {A B : Int} (ha : a.toInt = A) (hb : b.toInt = B) (h1 : -9223372036854775808 ≤ A - B) (h2 : A - B < 9223372036854775808) : (a - b).toInt = A - B := by
  have := c_lsub a b; have := rng64 (a - b); omega
theorem own_mul {a b : Int64} {A B : Int} (ha : a.toInt = A) (hb : b.toInt = B) (h1 : -9223372036854775808 ≤ A * B) (h2 : A * B < 9223372036854775808) : (a * b).toInt = A * B := by
  have := c_lmul a b; have := rng64 (a * b); rw [ha, hb] at *; omega
def Three (c r p : Int64) : Prop := 1 ≤ p.toInt ∧ 1 ≤ r.toInt ∧ 1 ≤ c.toInt ∧ c.toInt ≤ 9223372036854775807 / p.toInt
theorem own_nn {i : Nat} (h : i < 2 ^ 31) : ¬ Int32.ofNat i < 0 := by
  rw [Int32.lt_iff_toInt_lt, toInt_of rfl h]
  have : (0 : Int32).toInt = 0 := rfl
  omega
theorem own_lt {i j : Nat} (hi : i < 2 ^ 31) (hj : j < 2 ^ 31) : Int32.ofNat i < Int32.ofNat j ↔ i < j := by
  rw [Int32.lt_iff_toInt_lt, toInt_of rfl hi, toInt_of rfl hj]; omega
theorem own_inj {i j : Nat} (hi : i < 2 ^ 31) (hj : j < 2 ^ 31) (h : Int32.ofNat i = Int32.ofNat j) : i = j := by
  have := congrArg Int32.toInt h
  rw [toInt_of rfl hi, toInt_of rfl hj] at this; omega
theorem own_below {j : Int32} {n : Nat} (hn : n < 2 ^ 31) (h1 : ¬ j < 0) (h2 : j < Int32.ofNat n) : j.toNatClampNeg < n := by
  rw [Int32.lt_iff_toInt_lt, toInt_of rfl hn, nat_of h1] at h2; omega
theorem own_clamp {j : Int32} {i : Nat} (hj : ¬ j < 0) (hi : i < 2 ^ 31) : j = Int32.ofNat i ↔ j.toNatClampNeg = i := by
  constructor
  · rintro rfl; exact clamp_of rfl hi
  · intro q
    apply Int32.toInt_inj.mp
    rw [toInt_of rfl hi, nat_of hj, q]
def uv (x : Int32) : Int := x.toInt % 4294967296
def uw (x : Int64) : Int := x.toInt % 18446744073709551616
theorem uv_rng (x : Int32) : 0 ≤ uv x ∧ uv x < 4294967296 := by unfold uv; omega
theorem uw_rng (x : Int64) : 0 ≤ uw x ∧ uw x < 18446744073709551616 := by unfold uw; omega
theorem m32 (x : Int32) : (x.toInt64 &&& (4294967295 : Int64)).toInt = uv x := by
  have a := c_maskL x.toInt64 4294967295 32 (by decide) (by decide)
  rw [c_i2l] at a; exact a
theorem m32L (x : Int64) : (x &&& (4294967295 : Int64)).toInt = x.toInt % 4294967296 := c_maskL x 4294967295 32 (by decide) (by decide)
theorem uv_l2i (x : Int64) : uv x.toInt32 = x.toInt % 4294967296 := by
  have a := c_l2i x; unfold uv; omega
theorem uv_hi (x : Int64) : uv ((x.toUInt64 >>> ((32 : Int32) &&& 63).toInt64.toUInt64).toInt64).toInt32 = uw x / 4294967296 := by
  have a : ((x.toUInt64 >>> ((32 : Int32) &&& 63).toInt64.toUInt64).toInt64).toInt = (x.toInt % 18446744073709551616) / 4294967296 := c_lushr x 32 32 (by decide) (by decide)
  rw [uv_l2i, a]; unfold uw; omega
theorem uv_lo (x : Int64) : uv (x &&& (4294967295 : Int64)).toInt32 = uw x % 4294967296 := by
  rw [uv_l2i, m32L]; unfold uw; omega
theorem uw_pack {x y : Int64} {Y : Int} (hy : y.toInt = Y) (h0 : 0 ≤ Y) (h1 : Y < 4294967296) : uw ((x <<< ((32 : Int32) &&& 63).toInt64) ||| y) = (x.toInt % 4294967296) * 4294967296 + Y := by
  have a : ((x <<< ((32 : Int32) &&& 63).toInt64).toInt - x.toInt * 4294967296) % 18446744073709551616 = 0 := c_lshl x 32 32 (by decide)
  have b := c_orL (x <<< ((32 : Int32) &&& 63).toInt64) y 32 (by decide) 4294967296 rfl (by omega) (by omega) (by omega)
  unfold uw; omega
theorem i_of {x : Int32} (h : uv x = 0) : x = 0 := by
  apply Int32.toInt_inj.mp
  have r := rng32 x; have z : (0 : Int32).toInt = 0 := rfl
  unfold uv at h; omega
theorem uv_inj {x y : Int32} (h : uv x = uv y) : x = y := by
  apply Int32.toInt_inj.mp
  have r := rng32 x; have r' := rng32 y
  unfold uv at h; omega
theorem knuth {dh dl nh nm nl q r s p : Int} (hd : 2147483648 ≤ dh) (hd2 : dh < 4294967296) (hl : 0 ≤ dl) (hl2 : dl < 4294967296) (hm : 0 ≤ nm) (hm2 : nm < 4294967296) (hn : 0 ≤ nl) (hn2 : nl < 4294967296) (h0 : 0 ≤ nh)
    (hN : nh * 4294967296 + nm < dh * 4294967296 + dl) (hq : 0 ≤ q) (hq2 : q < 4294967296) (hs : s = q * dh) (hp : p = q * dl) (he : s + r = nh * 4294967296 + nm) (hr : 0 ≤ r) (hc : r < dh ∨ nh = dh ∧ q = 4294967295) :
    (¬ r * 4294967296 + nl < p → s * 4294967296 + p ≤ (nh * 4294967296 + nm) * 4294967296 + nl ∧ (nh * 4294967296 + nm) * 4294967296 + nl < s * 4294967296 + p + (dh * 4294967296 + dl)) ∧
    (r * 4294967296 + nl < p → 1 ≤ q ∧
      ((4294967296 ≤ r + dh ∨ ¬ (r + dh) * 4294967296 + nl < p - dl) → s * 4294967296 + p - (dh * 4294967296 + dl) ≤ (nh * 4294967296 + nm) * 4294967296 + nl ∧ (nh * 4294967296 + nm) * 4294967296 + nl < s * 4294967296 + p) ∧
      (r + dh < 4294967296 → (r + dh) * 4294967296 + nl < p - dl → 2 ≤ q ∧ s * 4294967296 + p - 2 * (dh * 4294967296 + dl) ≤ (nh * 4294967296 + nm) * 4294967296 + nl ∧ (nh * 4294967296 + nm) * 4294967296 + nl < s * 4294967296 + p - (dh * 4294967296 + dl))) := by
  have hp0 : 0 ≤ p := by rw [hp]; exact Int.mul_nonneg hq hl
  have hp1 : p ≤ 4294967295 * 4294967295 := by
    rw [hp]; exact Int.mul_le_mul (by omega) (by omega) hl (by decide)
  have hq1 : 0 < p → 1 ≤ q := fun u => by
    rcases Int.lt_or_eq_of_le hq with v | v
    · omega
    · rw [hp, ← v] at u; omega
  have hq3 : dl < p → 2 ≤ q := fun u => by
    have := hq1 (by omega)
    rcases (show q = 1 ∨ 2 ≤ q by omega) with v | v
    · rw [hp, v] at u; omega
    · exact v
  have hs4 : nh = dh → q = 4294967295 → s = 4294967295 * dh := fun _ v => by rw [hs, v]
  refine ⟨fun c1 => ⟨by omega, ?_⟩, fun c1 => ⟨hq1 (by omega), fun c2 => ⟨?_, by omega⟩, fun c2 c3 => ⟨hq3 (by omega), by omega, by omega⟩⟩⟩
  · rcases hc with c | ⟨c, c'⟩
    · omega
    · have e1 := hs4 c c'
      have e2 : p = 4294967295 * dl := by rw [hp, c']
      omega
  · rcases c2 with c | c <;> omega
theorem dw_guess {n d m h q : Int} (hd : 2147483648 ≤ d) (hd2 : d < 4294967296) (hn : 0 ≤ n) (hn2 : n < 18446744073709551616) (em : m = n / 2) (eh : h = d / 2) (eq : q = m / h) : 0 ≤ q ∧ q ≤ 8589934592 ∧ -8589934592 ≤ n - q * d ∧ n - q * d < 4294967296 := by
  have hh : 0 < h := by omega
  have a : q * h ≤ m := by rw [eq]; exact Int.ediv_mul_le _ (by omega)
  have b : m < q * h + h := by
    have := Int.lt_ediv_add_one_mul_self m hh
    rw [← eq, Int.add_mul, Int.one_mul] at this; exact this
  have q0 : 0 ≤ q := by rw [eq]; exact Int.ediv_nonneg (by omega) (by omega)
  have q1 : q ≤ 8589934592 := by
    refine Int.not_lt.mp (fun u => ?_)
    have := Int.mul_le_mul (show 8589934593 ≤ q by omega) (show 1073741824 ≤ h by omega) (by decide) q0
    omega
  rcases (show d = 2 * h ∨ d = 2 * h + 1 by omega) with e | e
  · have : q * d = 2 * (q * h) := by rw [e, Int.mul_left_comm]
    omega
  · have : q * d = 2 * (q * h) + q := by rw [e, Int.mul_add, Int.mul_one, Int.mul_left_comm]
    omega
theorem dw_end {n d q r : Int} (hd : 0 < d) (h : q * d + r = n) (h0 : 0 ≤ r) (h1 : r < d) : q = n / d ∧ r = n % d := by
  have e : n / d = q := by
    rw [← h, Int.add_comm, Int.add_mul_ediv_right _ _ (by omega), Int.ediv_eq_zero_of_lt h0 h1, Int.zero_add]
  refine ⟨e.symm, ?_⟩
  have := Int.emod_add_mul_ediv n d
  rw [e, Int.mul_comm] at this; omega
def NZ (u : Int) (k : Nat) : Prop := k ≤ 32 ∧ (u = 0 ∧ k = 32 ∨ k ≤ 31 ∧ ((2 ^ (31 - k) : Nat) : Int) ≤ u ∧ u < ((2 ^ (32 - k) : Nat) : Int))
def St (x x1 n1 : Int32) (b : Int) (m : Nat) : Prop := ∃ s : Nat, s ≤ m ∧ n1.toInt = 31 - s ∧ x1.toInt = x.toInt / ((2 ^ s : Nat) : Int) ∧ 1 ≤ x1.toInt ∧ x1.toInt < b
theorem St.zero {x : Int32} (h : 0 < x) : St x x 31 2147483648 0 := by
  have r := rng32 x
  have h : 0 < x.toInt := Int32.lt_iff_toInt_lt.mp h
  exact ⟨0, by omega, rfl, by simp, by omega, by omega⟩
theorem St.stay {x x1 n1 c : Int32} {b b' : Int} {m m' : Nat} (S : St x x1 n1 b m) (h : x1 < c) (hc : c.toInt = b') (hm : m ≤ m') : St x x1 n1 b' m' := by
  obtain ⟨s, h1, h2, h3, h4, h5⟩ := S
  rw [Int32.lt_iff_toInt_lt, hc] at h
  exact ⟨s, by omega, h2, h3, h4, h⟩
theorem St.step {x x1 n1 c q i : Int32} {b b' : Int} {m m' k : Nat} (S : St x x1 n1 b m) (h : ¬ x1 < c) (hc : c.toInt = ((2 ^ k : Nat) : Int)) (hq : q.toBitVec.toNat % 32 = k) (hk : 0 < k) (hi : i.toInt = -(k : Int)) (hm : m + k ≤ m') (hm2 : m' ≤ 31) (hb : b ≤ b' * ((2 ^ k : Nat) : Int)) : St x (x1.toUInt32 >>> (q &&& 31).toUInt32).toInt32 (n1 + i) b' m' := by
  obtain ⟨s, h1, h2, h3, h4, h5⟩ := S
  rw [Int32.lt_iff_toInt_lt, hc] at h
  have e := c_iushr x1 q k hq hk
  have r1 := rng32 x1
  have e2 : x1.toInt % 4294967296 = x1.toInt := by omega
  rw [e2] at e
  have a := c_iadd n1 i
  have rn := rng32 (n1 + i)
  have pos : (0 : Int) < ((2 ^ k : Nat) : Int) := by exact_mod_cast Nat.pos_of_ne_zero (by simp)
  refine ⟨s + k, by omega, by omega, ?_, ?_, ?_⟩
  · have nn : ¬ ((2 ^ s : Nat) : Int) < 0 := Int.not_lt.mpr (Int.natCast_nonneg _)
    rw [e, h3, Int.ediv_ediv, if_neg (fun u => nn u.1), Int.sub_zero, Nat.pow_add]; simp
  · rw [e]; exact Int.le_ediv_of_mul_le pos (by omega)
  · rw [e]; exact Int.ediv_lt_of_lt_mul pos (Int.lt_of_lt_of_le h5 hb)
theorem St.nz {x x1 n1 : Int32} (h0 : 0 < x) (S : St x x1 n1 4 30) : ∃ k : Nat, n1 - (x1.toUInt32 >>> ((1 : Int32) &&& 31).toUInt32).toInt32 = Int32.ofNat k ∧ NZ (uv x) k := by
  obtain ⟨s, h1, h2, h3, h4, h5⟩ := S
  have e : ((x1.toUInt32 >>> ((1 : Int32) &&& 31).toUInt32).toInt32).toInt = (x1.toInt % 4294967296) / 2 := c_iushr x1 1 1 (by decide) (by decide)
  have a := c_isub n1 (x1.toUInt32 >>> ((1 : Int32) &&& 31).toUInt32).toInt32
  have rn := rng32 (n1 - (x1.toUInt32 >>> ((1 : Int32) &&& 31).toUInt32).toInt32)
  have rx := rng32 x
  have h0 : 0 < x.toInt := Int32.lt_iff_toInt_lt.mp h0
  have ux : uv x = x.toInt := by unfold uv; omega
  have pos : (0 : Int) < ((2 ^ s : Nat) : Int) := by exact_mod_cast Nat.pos_of_ne_zero (by simp)
  have lo : x1.toInt * ((2 ^ s : Nat) : Int) ≤ x.toInt := by rw [h3]; exact Int.ediv_mul_le _ (by omega)
  have hi : x.toInt < x1.toInt * ((2 ^ s : Nat) : Int) + ((2 ^ s : Nat) : Int) := by
    have := Int.lt_ediv_add_one_mul_self x.toInt pos
    rw [← h3, Int.add_mul, Int.one_mul] at this; exact this
  rcases (show x1.toInt = 1 ∨ x1.toInt = 2 ∨ x1.toInt = 3 by omega) with q | q | q
  · rw [q] at lo hi e
    refine ⟨31 - s, Int32.toInt_inj.mp (by rw [toInt_of rfl (by omega)]; omega), by omega, Or.inr ⟨by omega, ?_, ?_⟩⟩
    · rw [ux, show 31 - (31 - s) = s by omega]; omega
    · rw [ux, show 32 - (31 - s) = s + 1 by omega, Nat.pow_succ]; omega
  · rw [q] at lo hi e
    refine ⟨30 - s, Int32.toInt_inj.mp (by rw [toInt_of rfl (by omega)]; omega), by omega, Or.inr ⟨by omega, ?_, ?_⟩⟩
    · rw [ux, show 31 - (30 - s) = s + 1 by omega, Nat.pow_succ]; omega
    · rw [ux, show 32 - (30 - s) = s + 1 + 1 by omega, Nat.pow_succ, Nat.pow_succ]; omega
  · rw [q] at lo hi e
    refine ⟨30 - s, Int32.toInt_inj.mp (by rw [toInt_of rfl (by omega)]; omega), by omega, Or.inr ⟨by omega, ?_, ?_⟩⟩
    · rw [ux, show 31 - (30 - s) = s + 1 by omega, Nat.pow_succ]; omega
    · rw [ux, show 32 - (30 - s) = s + 1 + 1 by omega, Nat.pow_succ, Nat.pow_succ]; omega
def QQ (n D : Int64) : Int64 := (n.toUInt64 >>> ((1 : Int32) &&& 63).toInt64.toUInt64).toInt64 / (D.toUInt64 >>> ((1 : Int32) &&& 63).toInt64.toUInt64).toInt64
theorem own_half (n : Int64) : ((n.toUInt64 >>> ((1 : Int32) &&& 63).toInt64.toUInt64).toInt64).toInt = uw n / 2 := c_lushr n 1 1 (by decide) (by decide)
theorem own_guess (n : Int64) {D : Int64} {u : Int} (hD : D.toInt = u) (hd : 2147483648 ≤ u) (hd2 : u < 4294967296) : 0 ≤ (QQ n D).toInt ∧ (QQ n D).toInt ≤ 8589934592 ∧ -8589934592 ≤ (n - QQ n D * D).toInt ∧ (n - QQ n D * D).toInt < 4294967296 ∧ (QQ n D).toInt * D.toInt + (n - QQ n D * D).toInt = uw n := by
  have hn := own_half n
  have rn := uw_rng n
  have hh : ((D.toUInt64 >>> ((1 : Int32) &&& 63).toInt64.toUInt64).toInt64).toInt = u / 2 := by rw [own_half, uw, hD, Int.emod_eq_of_lt (by omega) (by omega)]
  have hq : (QQ n D).toInt = (uw n / 2) / (u / 2) := by
    have e := (c_ldiv (n.toUInt64 >>> ((1 : Int32) &&& 63).toInt64.toUInt64).toInt64 (D.toUInt64 >>> ((1 : Int32) &&& 63).toInt64.toUInt64).toInt64 _ hh (fun q => by rw [q] at hh; have : (-1 : Int64).toInt = -1 := rfl; omega)).1 (by omega)
    rw [hn] at e; exact e
  obtain ⟨g1, g2, g3, g4⟩ := dw_guess hd hd2 rn.1 rn.2 rfl rfl hq
  have m := c_lmul (QQ n D) D
  have s := c_lsub n (QQ n D * D)
  have r := rng64 (n - QQ n D * D)
  rw [hD] at m ⊢
  have en : uw n = n.toInt % 18446744073709551616 := rfl
  refine ⟨g1, g2, ?_, ?_, ?_⟩ <;> omega
theorem own_dne {D : Int64} {u : Int} (hD : D.toInt = u) (hd : 2147483648 ≤ u) : ¬ D = 1 := fun q => by
  rw [q] at hD; have : (1 : Int64).toInt = 1 := rfl; omega
theorem own_dnz {D : Int64} {u : Int} (hD : D.toInt = u) (hd : 2147483648 ≤ u) (hd2 : u < 4294967296) : (D.toUInt64 >>> ((1 : Int32) &&& 63).toInt64.toUInt64).toInt64 ≠ 0 := fun q => by
  have hh := own_half D
  rw [q, uw, hD] at hh; have : (0 : Int64).toInt = 0 := rfl; omega
theorem own_dw1 {D q r : Int64} {u N : Int} (hD : D.toInt = u) (hd : 2147483648 ≤ u) (hd2 : u < 4294967296) (h : r < 0) (h1 : -1099511627776 ≤ r.toInt) (hq : q.toInt ≤ 8589934592) (hq' : -8589934592 ≤ q.toInt) (he : q.toInt * D.toInt + r.toInt = N) : (r + D).toInt = r.toInt + u ∧ (q - 1).toInt = q.toInt - 1 ∧ (q - 1).toInt * D.toInt + (r + D).toInt = N ∧ r.toInt < 0 := by
  have h : r.toInt < 0 := Int64.lt_iff_toInt_lt.mp h
  have a := c_ladd r D; have ra := rng64 (r + D)
  have b := c_lsub q 1; have rb := rng64 (q - 1)
  have e1 : (1 : Int64).toInt = 1 := rfl
  have a1 : (r + D).toInt = r.toInt + u := by omega
  have a2 : (q - 1).toInt = q.toInt - 1 := by omega
  refine ⟨a1, a2, ?_, h⟩
  rw [a1, a2, Int.sub_mul, Int.one_mul, hD]; rw [hD] at he; omega
theorem own_dw2 {D q r : Int64} {u N : Int} (hD : D.toInt = u) (hd : 2147483648 ≤ u) (hd2 : u < 4294967296) (h : ¬ r < D) (h1 : r.toInt < 4294967296) (hq : q.toInt ≤ 8589934600) (hq' : -8589934592 ≤ q.toInt) (he : q.toInt * D.toInt + r.toInt = N) : (r - D).toInt = r.toInt - u ∧ (q + 1).toInt = q.toInt + 1 ∧ (q + 1).toInt * D.toInt + (r - D).toInt = N ∧ u ≤ r.toInt := by
  have h : ¬ r.toInt < D.toInt := fun q => h (Int64.lt_iff_toInt_lt.mpr q)
  have a := c_lsub r D; have ra := rng64 (r - D)
  have b := c_ladd q 1; have rb := rng64 (q + 1)
  have e1 : (1 : Int64).toInt = 1 := rfl
  have a1 : (r - D).toInt = r.toInt - u := by omega
  have a2 : (q + 1).toInt = q.toInt + 1 := by omega
  refine ⟨a1, a2, ?_, by omega⟩
  rw [a1, a2, Int.add_mul, Int.one_mul, hD]; rw [hD] at he; omega
theorem own_dwend {D q r : Int64} {u N : Int} (hD : D.toInt = u) (hd : 2147483648 ≤ u) (hd2 : u < 4294967296) (hN0 : 0 ≤ N) (hN : N < u * 4294967296) (he : q.toInt * D.toInt + r.toInt = N) (h0 : 0 ≤ r.toInt) (h : r < D) : uw ((r <<< ((32 : Int32) &&& 63).toInt64) ||| (q &&& (4294967295 : Int64))) = (N % u) * 4294967296 + N / u := by
  have h : r.toInt < D.toInt := Int64.lt_iff_toInt_lt.mp h
  rw [hD] at he h
  obtain ⟨e1, e2⟩ := dw_end (by omega) he h0 h
  have q0 : 0 ≤ q.toInt := by rw [e1]; exact Int.ediv_nonneg hN0 (by omega)
  have q1 : q.toInt < 4294967296 := by rw [e1]; exact Int.ediv_lt_of_lt_mul (by omega) (by rw [Int.mul_comm]; exact hN)
  have hy : (q &&& (4294967295 : Int64)).toInt = q.toInt := by rw [m32L]; omega
  rw [uw_pack hy q0 q1, ← e1, ← e2, Int.emod_eq_of_lt h0 (by omega)]
theorem own_nneg {r : Int64} (h : ¬ r < 0) : 0 ≤ r.toInt := by
  have h : ¬ r.toInt < (0 : Int64).toInt := fun q => h (Int64.lt_iff_toInt_lt.mpr q)
  have e : (0 : Int64).toInt = 0 := rfl
  omega
theorem own_nlt0 {r : Int64} (h : 0 ≤ r.toInt) : ¬ r < 0 := fun q => by
  have := Int64.lt_iff_toInt_lt.mp q
  have e : (0 : Int64).toInt = 0 := rfl
  omega
theorem uv_nat (x : Int32) : uv x = (x.toBitVec.toNat : Int) := by
  have e : x.toInt = x.toBitVec.toInt := rfl
  have b := x.toBitVec.isLt
  have c := BitVec.toInt_eq_toNat_cond x.toBitVec
  unfold uv; rw [e, c]
  split <;> omega
theorem uv_not (x : Int32) : uv (x ^^^ (-1 : Int32)) = 4294967295 - uv x := by
  rw [uv_nat, uv_nat]
  have e : (x ^^^ (-1 : Int32)).toBitVec = ~~~ x.toBitVec := by
    show x.toBitVec ^^^ (-1 : Int32).toBitVec = _
    rw [show (-1 : Int32).toBitVec = BitVec.allOnes 32 from by decide, BitVec.xor_allOnes]
  rw [e, BitVec.toNat_not]
  have b := x.toBitVec.isLt
  omega
def msP (a x : Int32) (c : Int64) : Int64 := (a.toInt64 &&& (4294967295 : Int64)) * (x.toInt64 &&& (4294967295 : Int64)) + c
theorem ms_p (a x : Int32) {c : Int64} (h0 : 0 ≤ c.toInt) (h1 : c.toInt ≤ 4294967296) : uw (msP a x c) = uv a * uv x + c.toInt ∧ 0 ≤ uv a * uv x ∧ uv a * uv x ≤ 18446744065119617025 := by
  have ra := uv_rng a; have rx := uv_rng x
  have p0 : 0 ≤ uv a * uv x := Int.mul_nonneg ra.1 rx.1
  have p1 : uv a * uv x ≤ 4294967295 * 4294967295 := Int.mul_le_mul (by omega) (by omega) rx.1 (by decide)
  have m := c_lmul (a.toInt64 &&& (4294967295 : Int64)) (x.toInt64 &&& (4294967295 : Int64))
  have s := c_ladd ((a.toInt64 &&& (4294967295 : Int64)) * (x.toInt64 &&& (4294967295 : Int64))) c
  rw [m32, m32] at m
  refine ⟨?_, p0, by omega⟩
  show (_ + c).toInt % 18446744073709551616 = _
  omega
theorem ms_step {t w : Int32} {p c' : Int64} {P : Int} (hp : uw p = P) (h2 : P ≤ 18446744069414584321) (hw : w = (t.toInt64 - p).toInt32) {z : Int32} (hz : z = if (((p.toInt32) ^^^ (-1 : Int32)).toInt64 &&& (4294967295 : Int64)) < ((t.toInt64 - p) &&& (4294967295 : Int64)) then 1 else 0) (hc : c' = (p.toUInt64 >>> ((32 : Int32) &&& 63).toInt64.toUInt64).toInt64 + z.toInt64) :
    uv t - P = uv w - c'.toInt * 4294967296 ∧ 0 ≤ c'.toInt ∧ c'.toInt ≤ 4294967296 := by
  have rp := uw_rng p
  have hs : ((p.toUInt64 >>> ((32 : Int32) &&& 63).toInt64.toUInt64).toInt64).toInt = uw p / 4294967296 := c_lushr p 32 32 (by decide) (by decide)
  have hd := c_lsub t.toInt64 p
  rw [c_i2l] at hd
  have hl : ((t.toInt64 - p) &&& (4294967295 : Int64)).toInt = (t.toInt64 - p).toInt % 4294967296 := m32L _
  have hn : (((p.toInt32) ^^^ (-1 : Int32)).toInt64 &&& (4294967295 : Int64)).toInt = 4294967295 - uv p.toInt32 := by rw [m32, uv_not]
  have hu : uv p.toInt32 = p.toInt % 4294967296 := uv_l2i p
  have hwv : uv w = (t.toInt64 - p).toInt % 4294967296 := by rw [hw, uv_l2i]
  have ep : uw p = p.toInt % 18446744073709551616 := rfl
  have et : uv t = t.toInt % 4294967296 := rfl
  have ha := c_ladd (p.toUInt64 >>> ((32 : Int32) &&& 63).toInt64.toUInt64).toInt64 z.toInt64
  have rc := rng64 ((p.toUInt64 >>> ((32 : Int32) &&& 63).toInt64.toUInt64).toInt64 + z.toInt64)
  rw [c_i2l] at ha
  by_cases q : (((p.toInt32) ^^^ (-1 : Int32)).toInt64 &&& (4294967295 : Int64)) < ((t.toInt64 - p) &&& (4294967295 : Int64))
  · rw [if_pos q] at hz
    rw [Int64.lt_iff_toInt_lt, hn, hl, hu] at q
    have e1 : z.toInt = 1 := by rw [hz]; rfl
    rw [hc]; omega
  · rw [if_neg q] at hz
    rw [Int64.lt_iff_toInt_lt, hn, hl, hu] at q
    have e1 : z.toInt = 0 := by rw [hz]; rfl
    rw [hc]; omega
theorem uw_lt {x y : Int64} : y + (-9223372036854775808 : Int64) < x + (-9223372036854775808 : Int64) ↔ uw y < uw x := by
  have a := c_ladd x (-9223372036854775808); have b := c_ladd y (-9223372036854775808)
  have e : (-9223372036854775808 : Int64).toInt = -9223372036854775808 := rfl
  have ra := rng64 (x + (-9223372036854775808 : Int64)); have rb := rng64 (y + (-9223372036854775808 : Int64))
  rw [Int64.lt_iff_toInt_lt]
  unfold uw; omega
theorem sh_lo (b : Int32) {s : Nat} (hs : s ≤ 31) : uv (b <<< (Int32.ofNat s &&& 31)) = (uv b * ((2 ^ s : Nat) : Int)) % 4294967296 := by
  have q : (Int32.ofNat s).toBitVec.toNat % 32 = s := by
    have := uv_nat (Int32.ofNat s)
    rw [uv, toInt_of rfl (by omega)] at this
    omega
  have a := c_ishl b (Int32.ofNat s) s q
  have e : (b.toInt * ((2 ^ s : Nat) : Int)) % 4294967296 = (uv b * ((2 ^ s : Nat) : Int)) % 4294967296 := by
    have r := Int.mul_emod (b.toInt % 4294967296) ((2 ^ s : Nat) : Int) 4294967296
    rw [Int.emod_emod_of_dvd b.toInt (Int.dvd_refl 4294967296)] at r
    exact (Int.mul_emod _ _ _).trans r.symm
  rw [← e]; unfold uv; omega
theorem sh_word (b c : Int32) {s : Nat} (h1 : 1 ≤ s) (hs : s ≤ 31) : uv ((b <<< (Int32.ofNat s &&& 31)) ||| (c.toUInt32 >>> (((32 : Int32) - Int32.ofNat s) &&& 31).toUInt32).toInt32) = (uv b * ((2 ^ s : Nat) : Int)) % 4294967296 + uv c / ((2 ^ (32 - s) : Nat) : Int) := by
  have es : (32 : Int32) - Int32.ofNat s = Int32.ofNat (32 - s) := by
    apply Int32.toInt_inj.mp
    have a := c_isub 32 (Int32.ofNat s)
    have r := rng32 ((32 : Int32) - Int32.ofNat s)
    rw [toInt_of rfl (by omega)] at a ⊢
    have e : (32 : Int32).toInt = 32 := rfl
    omega
  have q : (Int32.ofNat (32 - s)).toBitVec.toNat % 32 = 32 - s := by
    have := uv_nat (Int32.ofNat (32 - s))
    rw [uv, toInt_of rfl (by omega)] at this
    omega
  have u := c_iushr c (Int32.ofNat (32 - s)) (32 - s) q (by omega)
  rw [es]
  have lo := sh_lo b hs
  have rc := uv_rng c
  have pos : (0 : Int) < ((2 ^ (32 - s) : Nat) : Int) := by exact_mod_cast Nat.pos_of_ne_zero (by simp)
  have pp : ((2 ^ s : Nat) : Int) * ((2 ^ (32 - s) : Nat) : Int) = 4294967296 := by
    have : 2 ^ s * 2 ^ (32 - s) = 4294967296 := by rw [← Nat.pow_add, show s + (32 - s) = 32 by omega]
    rw [← Int.natCast_mul, this]; rfl
  have u1 : uv c / ((2 ^ (32 - s) : Nat) : Int) < ((2 ^ s : Nat) : Int) := Int.ediv_lt_of_lt_mul pos (by rw [pp]; exact rc.2)
  have u0 : 0 ≤ uv c / ((2 ^ (32 - s) : Nat) : Int) := Int.ediv_nonneg rc.1 (by omega)
  have u : ((c.toUInt32 >>> (Int32.ofNat (32 - s) &&& 31).toUInt32).toInt32).toInt = uv c / ((2 ^ (32 - s) : Nat) : Int) := u
  have dv : ((2 ^ s : Nat) : Int) ∣ 4294967296 := ⟨_, pp.symm⟩
  have am : (b <<< (Int32.ofNat s &&& 31)).toInt % ((2 ^ s : Nat) : Int) = 0 := by
    have e := congrArg (fun z => z % ((2 ^ s : Nat) : Int)) lo
    simp only [uv] at e
    rw [Int.emod_emod_of_dvd _ dv, Int.emod_emod_of_dvd _ dv, Int.mul_emod_left] at e
    exact e
  have o := c_or (b <<< (Int32.ofNat s &&& 31)) (c.toUInt32 >>> (Int32.ofNat (32 - s) &&& 31).toUInt32).toInt32 s hs _ rfl am (by rw [u]; exact u0) (by rw [u]; exact u1)
  rw [u] at o
  have lr := uv_rng (b <<< (Int32.ofNat s &&& 31))
  have lm : uv (b <<< (Int32.ofNat s &&& 31)) % ((2 ^ s : Nat) : Int) = 0 := by rw [lo, Int.emod_emod_of_dvd _ dv, Int.mul_emod_left]
  have top : uv (b <<< (Int32.ofNat s &&& 31)) + uv c / ((2 ^ (32 - s) : Nat) : Int) < 4294967296 := by
    obtain ⟨z, hz⟩ := Int.dvd_of_emod_eq_zero lm
    have : z < ((2 ^ (32 - s) : Nat) : Int) := by
      refine Int.not_le.mp (fun w => ?_)
      have := Int.mul_le_mul_of_nonneg_left w (show (0 : Int) ≤ ((2 ^ s : Nat) : Int) by omega)
      rw [pp, ← hz] at this; omega
    have := Int.mul_le_mul_of_nonneg_left (show z + 1 ≤ ((2 ^ (32 - s) : Nat) : Int) by omega) (show (0 : Int) ≤ ((2 ^ s : Nat) : Int) by omega)
    rw [pp, Int.mul_add, Int.mul_one, ← hz] at this
    omega
  rw [← lo]
  have e1 : uv (b <<< (Int32.ofNat s &&& 31)) = (b <<< (Int32.ofNat s &&& 31)).toInt % 4294967296 := rfl
  unfold uv at *
  omega
def LB (x : Int) (l : Nat) : Prop := l ≤ 63 ∧ (x = 0 ∧ l = 0 ∨ 1 ≤ l ∧ ((2 ^ (l - 1) : Nat) : Int) ≤ x ∧ x < ((2 ^ l : Nat) : Int))
theorem lb_lo {x : Int64} {k : Nat} (h0 : 0 ≤ x.toInt) (hi : uw x / 4294967296 = 0) (N : NZ (uv x.toInt32) k) : (32 : Int32) + Int32.ofNat k = Int32.ofNat (64 - (32 - k)) ∧ LB x.toInt (32 - k) := by
  have e := uv_l2i x
  have ew : uw x = x.toInt % 18446744073709551616 := rfl
  have r := rng64 x
  have ex : uv x.toInt32 = x.toInt := by omega
  obtain ⟨h1, h2⟩ := N
  rw [ex] at h2
  refine ⟨?_, by omega, ?_⟩
  · rw [show (32 : Int32) = Int32.ofNat 32 from rfl, ← Int32.ofNat_add, show 32 + k = 64 - (32 - k) by omega]
  · rcases h2 with ⟨a, b⟩ | ⟨a, b, c⟩
    · exact Or.inl ⟨a, by omega⟩
    · refine Or.inr ⟨by omega, ?_, c⟩
      rw [show 32 - k - 1 = 31 - k by omega]; exact b
theorem lb_hi {x : Int64} {k : Nat} (h0 : 0 ≤ x.toInt) (hi : ¬ uw x / 4294967296 = 0) (N : NZ (uw x / 4294967296) k) : Int32.ofNat k = Int32.ofNat (64 - (64 - k)) ∧ LB x.toInt (64 - k) := by
  have ew : uw x = x.toInt % 18446744073709551616 := rfl
  have r := rng64 x
  have ex : uw x = x.toInt := by omega
  rw [ex] at N hi
  obtain ⟨h1, h2⟩ := N
  rcases h2 with ⟨a, b⟩ | ⟨a, b, c⟩
  · exact absurd a hi
  · have p1 : ((2 ^ (63 - k) : Nat) : Int) = ((2 ^ (31 - k) : Nat) : Int) * 4294967296 := by
      rw [show 63 - k = (31 - k) + 32 by omega, Nat.pow_add, Int.natCast_mul]; rfl
    have p2 : ((2 ^ (64 - k) : Nat) : Int) = ((2 ^ (32 - k) : Nat) : Int) * 4294967296 := by
      rw [show 64 - k = (32 - k) + 32 by omega, Nat.pow_add, Int.natCast_mul]; rfl
    have hk : k ≠ 0 := fun q => by
      subst q
      have b : (2147483648 : Int) ≤ x.toInt / 4294967296 := b
      omega
    refine ⟨by rw [show 64 - (64 - k) = k by omega], by omega, Or.inr ⟨by omega, ?_, ?_⟩⟩
    · rw [show 64 - k - 1 = 63 - k by omega, p1]; omega
    · rw [p2]; omega
def own_xi (x y : Int32) : Int32 := if x < y then y else x
def own_ni (x y : Int32) : Int32 := if y < x then y else x
theorem Three.le {c r p : Int64} (h : Three c r p) : ¬ 9223372036854775807 / p < c := by
  rw [Int64.lt_iff_toInt_lt, own_div (by rw [own_cM]; decide) h.1, own_cM]; have := h.2.2.2; omega
theorem Three.one {x : Int64} (h : 1 ≤ x.toInt) : ¬ x < 1 := by rw [Int64.lt_iff_toInt_lt, own_c1]; omega
theorem own_nz0 {x : Int32} (h1 : ¬ 0 < x) (h2 : ¬ x = 0) : NZ (uv x) 0 := by
  have r := rng32 x
  have a : ¬ 0 < x.toInt := fun q => h1 (Int32.lt_iff_toInt_lt.mpr q)
  have b : ¬ x.toInt = 0 := fun q => h2 (Int32.toInt_inj.mp q)
  refine ⟨by decide, Or.inr ⟨by decide, ?_, ?_⟩⟩
  · show ((2147483648 : Nat) : Int) ≤ _; unfold uv; omega
  · show _ < ((4294967296 : Nat) : Int); unfold uv; omega
theorem goJs {E : Ev} {h : Heap} {kc kn pc : Nat} {ls : Array Slot} {rest : List Value} {Pz : Int64 → Prop} (k : ∀ z, Pz z → Wk E h kc kn pc ls (.long z :: rest)) : ∀ v h', (∃ z, v = some (.long z) ∧ (h' = h ∧ Pz z)) → Wk E h' kc kn pc ls (v.toList ++ rest) := fun v h' q => by obtain ⟨z, rfl, rfl, q⟩ := q; exact k z q
def intF (g : Nat → Int32) : Int32 → Value := fun j => .int (g j.toNatClampNeg)
section Own2
variable {E : Ev} {y : MethodName} {bytes : ByteArray} {ml : Nat} {rt : Option FieldType} {l : Launch} {Z : State} {R : Room} {n0 : Nat} {Q : Option Value → Heap → Prop} {a0 : Array Value} {h h' : Heap} {kc kn kc' kn' pc pc' pc1 pc2 : Nat} {ls ls' : Array Slot} {st : List Value} {a b : Addr}
theorem own_selp {k : Nat} (w : (Jvm.Cond.privateMethod y).before a0 Z = true) (wn : (Jvm.Cond.instanceMethod y).before a0 Z = true) (wi : (Jvm.Cond.instantiable y.cls k).before a0 Z = true) (hy : y.cls ≠ "java/lang/invoke/MethodHandle" ∧ y.cls ≠ "java/lang/invoke/VarHandle") : (Jvm.Cond.selects y.cls y y).before a0 Z = true := by
  obtain ⟨t, k', g1, g2, g3, g4, -⟩ := Cond.instantiable_spec wi
  have g7 : k'.isInterface = false := by
    cases hq : k'.isInterface
    · rfl
    · rw [hq] at g4; cases g4
  exact selects_self_of_private g1 g2 g7 (Cond.privateMethod_at w) wn hy
theorem own_fit {N : Int32} {f : Int32 → Value} {c : Cell} (A : Arr Z h a c .int) (S : c.slots.size = N.toNatClampNeg) (M : ¬ N < 0) (G : ∀ j : Int32, ¬ j < 0 → j < N → c.slots[j.toNatClampNeg]? = some (f j)) (hf : ∀ j, ∃ x, f j = .int x) : ∀ i, i < c.slots.size → ∃ x, c.slots[i]? = some (.int x) := by
  intro i hi
  have hb : N.toNatClampNeg < 2 ^ 31 := by
    have := Int32.toInt_lt N
    simp only [Int32.toNatClampNeg]; omega
  have hi2 : i < 2 ^ 31 := by omega
  obtain ⟨x, hx⟩ := hf (Int32.ofNat i)
  have := G (Int32.ofNat i) (own_nn hi2) (by rw [Int32.lt_iff_toInt_lt, toInt_of rfl hi2, nat_of M]; omega)
  rw [clamp_of rfl hi2] at this
  exact ⟨x, by rw [this, hx]⟩
theorem own_arv {N : Int32} {f : Int32 → Value} (A : Ia Z h a .int N f) (hf : ∀ j, ∃ x, f j = .int x) : ∃ k, Arv Z h a k .int N ((List.range N.toNatClampNeg).map fun i => f (Int32.ofNat i)) (.int 0) := by
  obtain ⟨c, Ar, S, M, G⟩ := A
  have hb : N.toNatClampNeg < 2 ^ 31 := by
    have := Int32.toInt_lt N
    simp only [Int32.toNatClampNeg]; omega
  refine ⟨c.cls, c, Ar, rfl, S, M, fun i hi => ?_, fun i hi => ?_⟩
  · have hi2 : i < 2 ^ 31 := by omega
    have := G (Int32.ofNat i) (own_nn hi2) (by rw [Int32.lt_iff_toInt_lt, toInt_of rfl hi2, nat_of M]; omega)
    rw [clamp_of rfl hi2] at this
    rw [this, List.getD_eq_getElem?_getD, List.getElem?_map, List.getElem?_range (by omega)]; rfl
  · rw [List.getD_eq_getElem?_getD, List.getElem?_map, List.getElem?_range (by omega)]
    obtain ⟨x, hx⟩ := hf (Int32.ofNat i)
    show fits .int (f (Int32.ofNat i)) = true
    rw [hx]; rfl
theorem own_anyI {k : ClassId} {N : Int32} {vs : List Value} {dv : Value} (V : Arv Z h a k .int N vs dv) : ∃ g : Nat → Int32, Ia Z h a .int N (intF g) := by
  obtain ⟨c, A, -, S, M, H, G⟩ := V
  refine ⟨fun i => match vs.getD i dv with | .int x => x | _ => 0, c, A, S, M, fun j h1 h2 => ?_⟩
  have hj : j.toNatClampNeg < c.slots.size := inb_of S ⟨h1, h2⟩ |> fun q => Nat.lt_of_not_le (fun u => q (Or.inr u))
  rw [H _ hj]
  have f := G _ hj
  show some _ = some (Value.int (match vs.getD j.toNatClampNeg dv with | .int x => x | _ => 0))
  generalize vs.getD j.toNatClampNeg dv = u at f
  cases u <;> simp_all [fits]
theorem Kx.copyX (K : Kx E y bytes ml rt l Z R n0 Q) {i n m N sp : Nat} {f g : Int32 → Value} (W : Nat) (hd : Dc bytes pc (.invokestatic i) 3 pc')
    (w1 : (Cond.methodLink y.cls i Jvm.Stand.acN).before a0 Z = true) (w2 : (Cond.native Jvm.Stand.acN).before a0 Z = true) (w3 : (Cond.static Jvm.Stand.acN).before a0 Z = true) (w4 : (Cond.initialized "java/lang/System").before a0 Z = true)
    (A : Ia Z h a .int (Int32.ofNat n) f) (hf : ∀ j, ∃ x, f j = .int x) (B : Ia Z h b .int (Int32.ofNat m) g) (hg : ∀ j, ∃ x, g j = .int x) (hn31 : n < 2 ^ 31) (hm31 : m < 2 ^ 31) (h4 : sp + N ≤ n) (h5 : N ≤ m) (ge : n0 ≤ b)
    (hsz : ls.size = ml) (hfr : 1 ≤ R.frames) (hW : (st.map fun v => v.category).sum ≤ W) (hlo : W + (nativeFrameWords "java/lang/System" "arraycopy" 5 + 11) ≤ R.locals)
    (k : ∀ h' g', Keep h h' [b] → Ia Z h' b .int (Int32.ofNat m) (intF g') → Wk E h' kc kn pc' ls st) : Wk E h kc kn pc ls (.int (Int32.ofNat N) :: .int 0 :: .ref b :: .int (Int32.ofNat sp) :: .ref a :: st) := by
  obtain ⟨hd, rfl⟩ := hd
  refine K.move (fun p e s me args below meth c G T locs X eT N' => ?_)
  obtain ⟨g1, g2, g3, g4, g5, hZ, hown, g8, g9⟩ := G
  obtain ⟨ka, VA⟩ := own_arv A hf
  obtain ⟨kb, VB⟩ := own_arv B hg
  have en : (Int32.ofNat n).toNatClampNeg = n := clamp_of rfl hn31
  have em : (Int32.ofNat m).toNatClampNeg = m := clamp_of rfl hm31
  have eN : (Int32.ofNat N).toNatClampNeg = N := clamp_of rfl (by omega)
  have es : (Int32.ofNat sp).toNatClampNeg = sp := clamp_of rfl (by omega)
  have e0 : (0 : Int32).toNatClampNeg = 0 := rfl
  obtain ⟨T', h', L, X', e', NL, KP, V, q'⟩ := RoadKit.cpA X g1 hZ hown w1 w2 w3 w4 eT (sp := Int32.ofNat sp) (dp := 0) (nn := Int32.ofNat N) VA VB (Or.inl ⟨rfl, rfl⟩) (own_nn (by omega)) (by decide) (own_nn (by omega)) (by rw [es, eN, en]; omega) (by rw [e0, eN, em]; omega) rfl (by rw [e0, eN, em]; simp; omega) N' ge
    (g := mkF me pc ls (.int (Int32.ofNat N) :: .int 0 :: .ref b :: .int (Int32.ofNat sp) :: .ref a :: st)) rfl (by rw [g3]; exact hsz) (rest := st) rfl (hb g2 hd) hfr (W := W) (by show 2 * 0 + _ ≤ _; omega) hlo
  obtain ⟨g', V'⟩ := own_anyI V
  exact ⟨T', _, _, _, _, _, _, _, X', e', NL, KP.1, k h' g' KP V', fun t q => q' t q⟩
theorem Kx.copyI (K : Kx E y bytes ml rt l Z R n0 Q) {i n m N : Nat} {f g : Int32 → Value} (W : Nat) (hd : Dc bytes pc (.invokestatic i) 3 pc')
    (w1 : (Cond.methodLink y.cls i Jvm.Stand.acN).before a0 Z = true) (w2 : (Cond.native Jvm.Stand.acN).before a0 Z = true) (w3 : (Cond.static Jvm.Stand.acN).before a0 Z = true) (w4 : (Cond.initialized "java/lang/System").before a0 Z = true)
    (A : Ia Z h a .int (Int32.ofNat n) f) (hf : ∀ j, ∃ x, f j = .int x) (B : Ia Z h b .int (Int32.ofNat m) g) (hg : ∀ j, ∃ x, g j = .int x) (hn31 : n < 2 ^ 31) (hm31 : m < 2 ^ 31) (h4 : N ≤ n) (h5 : N ≤ m) (ge : n0 ≤ b)
    (hsz : ls.size = ml) (hfr : 1 ≤ R.frames) (hW : (st.map fun v => v.category).sum ≤ W) (hlo : W + (nativeFrameWords "java/lang/System" "arraycopy" 5 + 11) ≤ R.locals)
    (k : ∀ h', Keep h h' [b] → Ia Z h' b .int (Int32.ofNat m) (fun j => if j.toNatClampNeg < N then f j else g j) → Wk E h' kc kn pc' ls st) : Wk E h kc kn pc ls (.int (Int32.ofNat N) :: .int 0 :: .ref b :: .int 0 :: .ref a :: st) := by
  obtain ⟨hd, rfl⟩ := hd
  refine K.move (fun p e s me args below meth c G T locs X eT N' => ?_)
  obtain ⟨g1, g2, g3, g4, g5, hZ, hown, g8, g9⟩ := G
  obtain ⟨ka, VA⟩ := own_arv A hf
  obtain ⟨kb, VB⟩ := own_arv B hg
  have en : (Int32.ofNat n).toNatClampNeg = n := clamp_of rfl hn31
  have em : (Int32.ofNat m).toNatClampNeg = m := clamp_of rfl hm31
  have eN : (Int32.ofNat N).toNatClampNeg = N := clamp_of rfl (by omega)
  have e0 : (0 : Int32).toNatClampNeg = 0 := rfl
  obtain ⟨T', h', L, X', e', NL, KP, V, q'⟩ := RoadKit.cpA X g1 hZ hown w1 w2 w3 w4 eT (sp := 0) (dp := 0) (nn := Int32.ofNat N) VA VB (Or.inl ⟨rfl, rfl⟩) (by decide) (by decide) (own_nn (by omega)) (by rw [e0, eN, en]; omega) (by rw [e0, eN, em]; omega) rfl (by rw [e0, eN, em]; simp; omega) N' ge
    (g := mkF me pc ls (.int (Int32.ofNat N) :: .int 0 :: .ref b :: .int 0 :: .ref a :: st)) rfl (by rw [g3]; exact hsz) (rest := st) rfl (hb g2 hd) hfr (W := W) (by show 2 * 0 + _ ≤ _; omega) hlo
  refine ⟨T', _, _, _, _, _, _, _, X', e', NL, KP.1, k h' KP ?_, fun t q => q' t q⟩
  obtain ⟨cb, Ab, -, Sb, Mb, Hb, -⟩ := V
  refine ⟨cb, Ab, Sb, Mb, fun j h1 h2 => ?_⟩
  have hj := own_below hm31 h1 h2
  rw [Hb _ (by rw [Sb, em]; exact hj)]
  have ej : Int32.ofNat j.toNatClampNeg = j := ((own_clamp h1 (by omega)).mpr rfl).symm
  show some _ = some (if j.toNatClampNeg < N then f j else g j)
  congr 1
  rw [List.getD_eq_getElem?_getD]
  simp only [e0, eN, en, em, List.take_zero, List.nil_append, Nat.zero_add]
  by_cases u : j.toNatClampNeg < N
  · rw [if_pos u, List.getElem?_append_left (by simpa using u), List.getElem?_map, List.getElem?_range u]
    show ((List.range n).map _).getD _ _ = _
    rw [List.getD_eq_getElem?_getD, List.getElem?_map, List.getElem?_range (by omega)]
    show f _ = f j
    rw [ej]
  · rw [if_neg u, List.getElem?_append_right (by simpa using Nat.le_of_not_lt u), List.getElem?_drop]
    simp only [List.length_map, List.length_range]
    rw [show N + (j.toNatClampNeg - N) = j.toNatClampNeg by omega, List.getElem?_map, List.getElem?_range hj]
    show g _ = g j
    rw [ej]
end Own2
def own_h (f p : Int64) : Int32 := if p < f - 9223372036854775807 then 0 else 1
theorem own_ri (g : Nat → Int32) {i : Nat} (h : i < 2 ^ 31) : intF g (Int32.ofNat i) = .int (g i) := by unfold intF; rw [clamp_of rfl h]
theorem intF_int (g : Nat → Int32) : ∀ j, ∃ x, intF g j = .int x := fun j => ⟨_, rfl⟩
theorem zero_int : ∀ j : Int32, ∃ x, (fun _ : Int32 => Value.int 0) j = .int x := fun _ => ⟨_, rfl⟩
def upd (g : Nat → Int32) (c : Nat) (x : Int32) : Nat → Int32 := fun j => if j = c then x else g j
theorem own_upd (g : Nat → Int32) {c : Nat} (hc : c < 2 ^ 31) (x : Int32) (N : Int32) : ∀ j : Int32, ¬ j < 0 → j < N → (fun k_ => if k_ = Int32.ofNat c then Value.int x else intF g k_) j = intF (upd g c x) j := by
  intro j h1 _
  show (if j = Int32.ofNat c then Value.int x else intF g j) = .int (if j.toNatClampNeg = c then x else g j.toNatClampNeg)
  by_cases q : j.toNatClampNeg = c
  · rw [if_pos q, if_pos ((own_clamp h1 hc).mpr q)]
  · rw [if_neg q, if_neg (fun u => q ((own_clamp h1 hc).mp u))]; rfl
theorem upd_ne (g : Nat → Int32) {c j : Nat} (h : j ≠ c) (x : Int32) : upd g c x j = g j := if_neg h
theorem own_i2 (m : Nat) : Int32.ofNat m + (2 : Int32) = Int32.ofNat (m + 2) := (Int32.ofNat_add m 2).symm
theorem own_dec (m : Nat) : Int32.ofNat (m + 1) + (-1 : Int32) = Int32.ofNat m := by
  rw [show Int32.ofNat (m + 1) = Int32.ofNat m + 1 from Int32.ofNat_add m 1, Int32.add_assoc, show (1 : Int32) + (-1) = 0 from rfl, Int32.add_zero]
theorem own_ms {t1 t2 a0 a1 x w1 w2 c1 c2 : Int} (h1 : t2 - (a1 * x + (0 : Int64).toInt) = w1 - c1 * 4294967296) (h2 : t1 - (a0 * x + c1) = w2 - c2 * 4294967296) : t1 * 4294967296 + t2 - (a0 * x * 4294967296 + a1 * x) = w2 * 4294967296 + w1 - c2 * 18446744073709551616 := by
  have e : (0 : Int64).toInt = 0 := rfl
  omega
def own_uc (x y : Int64) : Int32 := if uw y < uw x then 1 else 0
theorem own_ks {k : Nat} (h : 1 ≤ k) : Int32.ofNat k - (1 : Int32) = Int32.ofNat (k - 1) := by
  obtain ⟨m, rfl⟩ : ∃ m, k = m + 1 := ⟨k - 1, by omega⟩
  rw [show Int32.ofNat (m + 1) = Int32.ofNat m + 1 from Int32.ofNat_add m 1]; exact Int32.add_sub_cancel _ _
theorem own_kd0 {k : Nat} (h : 2 ≤ k) : Int32.ofNat k - Int32.ofNat 0 - (1 : Int32) = Int32.ofNat (k - 1) := by
  rw [show Int32.ofNat 0 = (0 : Int32) from rfl, Int32.sub_zero]; exact own_ks (by omega)
theorem own_kd1 {k : Nat} (h : 2 ≤ k) : Int32.ofNat k - Int32.ofNat 1 - (1 : Int32) = Int32.ofNat (k - 2) := by
  rw [show Int32.ofNat 1 = (1 : Int32) from rfl, own_ks (by omega), own_ks (by omega)]; rfl
theorem own_nis (x : Int32) : own_ni x x = x := by unfold own_ni; split <;> rfl
theorem own_ksl {k : Nat} (h : 1 ≤ k) : Int32.ofNat k - (Int32.ofNat 1) = Int32.ofNat (k - 1) := own_ks h
theorem own_1k {k : Nat} (h : 1 ≤ k) : Int32.ofNat 1 + Int32.ofNat (k - 1) = Int32.ofNat k := by
  rw [← Int32.ofNat_add, show 1 + (k - 1) = k by omega]
theorem pw_le {a b : Nat} (h : a ≤ b) : ((2 ^ a : Nat) : Int) ≤ ((2 ^ b : Nat) : Int) := Int.ofNat_le.mpr (Nat.pow_le_pow_right (by decide) h)
theorem iw_lt {x y : Int32} : y + (-2147483648 : Int32) < x + (-2147483648 : Int32) ↔ uv y < uv x := by
  have a := c_iadd x (-2147483648); have b := c_iadd y (-2147483648)
  have e : (-2147483648 : Int32).toInt = -2147483648 := rfl
  have ra := rng32 (x + (-2147483648 : Int32)); have rb := rng32 (y + (-2147483648 : Int32))
  have rx := rng32 x; have ry := rng32 y
  rw [Int32.lt_iff_toInt_lt]
  unfold uv; omega
def QR (nh nm dh qh qr sk : Int32) : Prop := ∃ r : Int, uv qh * uv dh + r = uv nh * 4294967296 + uv nm ∧ 0 ≤ r ∧ (r < uv dh ∨ uv nh = uv dh ∧ uv qh = 4294967295) ∧ (sk = 0 ∧ uv qr = r ∨ ¬ sk = 0 ∧ 4294967296 ≤ r)
def DG (nh nm nl dh dl q : Int32) : Prop := uv q * (uv dh * 4294967296 + uv dl) ≤ (uv nh * 4294967296 + uv nm) * 4294967296 + uv nl ∧ (uv nh * 4294967296 + uv nm) * 4294967296 + uv nl < uv q * (uv dh * 4294967296 + uv dl) + (uv dh * 4294967296 + uv dl)
theorem uv_m1 : uv (-1 : Int32) = 4294967295 := rfl
theorem qr_eq {nh nm dh z : Int32} (h : nh = dh) (hz : z = if nh + nm + (-2147483648 : Int32) < nh + (-2147483648 : Int32) then 1 else 0) : QR nh nm dh (-1) (nh + nm) z := by
  subst h
  have rn := uv_rng nh; have rm := uv_rng nm
  have a := c_iadd nh nm
  have ra := rng32 (nh + nm)
  have e : uv (nh + nm) = (uv nh + uv nm) % 4294967296 := by unfold uv; omega
  refine ⟨uv nh + uv nm, by rw [uv_m1]; omega, by omega, Or.inr ⟨rfl, uv_m1⟩, ?_⟩
  by_cases q : nh + nm + (-2147483648 : Int32) < nh + (-2147483648 : Int32)
  · rw [if_pos q] at hz
    rw [iw_lt] at q
    exact Or.inr ⟨by rw [hz]; decide, by omega⟩
  · rw [if_neg q] at hz
    rw [iw_lt] at q
    exact Or.inl ⟨hz, by omega⟩
theorem uw_chunk (nh nm : Int32) : uw ((nh.toInt64 <<< ((32 : Int32) &&& 63).toInt64) ||| (nm.toInt64 &&& (4294967295 : Int64))) = uv nh * 4294967296 + uv nm := by
  have r := uv_rng nm
  rw [uw_pack (m32 nm) r.1 r.2, c_i2l]; rfl
theorem uw_chunkL {R : Int64} (nm : Int32) {u : Int} (hR : R.toInt = u) (h0 : 0 ≤ u) (h1 : u < 4294967296) : uw ((R <<< ((32 : Int32) &&& 63).toInt64) ||| (nm.toInt64 &&& (4294967295 : Int64))) = u * 4294967296 + uv nm := by
  have r := uv_rng nm
  rw [uw_pack (m32 nm) r.1 r.2, hR, Int.emod_eq_of_lt h0 h1]
theorem own_qr {est D : Int64} {u N : Int} (hN : uw est = N) (hD : D.toInt = u) (h1 : 1 ≤ u) (h2 : u < 4294967296) (h : ¬ est < 0) (hb : N < u * 4294967296) : uv (est / D).toInt32 = N / u ∧ uv (est - ((est / D).toInt32).toInt64 * D).toInt32 = N % u := by
  have h0 := own_nneg h
  have r := rng64 est
  have eN : est.toInt = N := by rw [← hN]; unfold uw; omega
  have hq : (est / D).toInt = N / u := by
    have e := (c_ldiv est D u hD (fun q => by rw [q] at hD; have : (-1 : Int64).toInt = -1 := rfl; omega)).1 h0
    rw [eN] at e; exact e
  have q0 : 0 ≤ N / u := Int.ediv_nonneg (by omega) (by omega)
  have q1 : N / u < 4294967296 := Int.ediv_lt_of_lt_mul (by omega) (by rw [Int.mul_comm]; exact hb)
  have e1 : uv (est / D).toInt32 = N / u := by rw [uv_l2i, hq]; omega
  refine ⟨e1, ?_⟩
  have m := c_lmul ((est / D).toInt32).toInt64 D
  have s := c_lsub est (((est / D).toInt32).toInt64 * D)
  rw [c_i2l, hD] at m
  have dm := Int.emod_add_mul_ediv N u
  have l := c_l2i (est / D)
  rw [hq] at l
  obtain ⟨z, hz⟩ : ∃ z, ((est / D).toInt32).toInt = N / u + z * 4294967296 := ⟨(((est / D).toInt32).toInt - N / u) / 4294967296, by omega⟩
  have pz : ((est / D).toInt32).toInt * u = u * (N / u) + (z * u) * 4294967296 := by
    rw [hz, Int.add_mul, Int.mul_comm (N / u) u, Int.mul_assoc, Int.mul_comm 4294967296 u, ← Int.mul_assoc]
  have r0 : 0 ≤ N % u := Int.emod_nonneg _ (by omega)
  have r1 : N % u < u := Int.emod_lt_of_pos _ (by omega)
  rw [uv_l2i]
  rw [pz] at m
  omega
theorem own_qrw {z : Int64} {u N : Int} (e : uw z = (N % u) * 4294967296 + N / u) (h1 : 1 ≤ u) (h0 : 0 ≤ N) (hb : N < u * 4294967296) : uv (z &&& (4294967295 : Int64)).toInt32 = N / u ∧ uv ((z.toUInt64 >>> ((32 : Int32) &&& 63).toInt64.toUInt64).toInt64).toInt32 = N % u := by
  have q0 : 0 ≤ N / u := Int.ediv_nonneg h0 (by omega)
  have q1 : N / u < 4294967296 := Int.ediv_lt_of_lt_mul (by omega) (by rw [Int.mul_comm]; exact hb)
  rw [uv_lo, uv_hi, e]
  omega
theorem own_le0 {est : Int64} {N : Int} (hN : uw est = N) (h : est < 0) : 9223372036854775808 ≤ N := by
  have h : est.toInt < 0 := Int64.lt_iff_toInt_lt.mp h
  have r := rng64 est
  rw [← hN]; unfold uw; omega
theorem qr_of {nh nm dh qh qr : Int32} {N : Int} (hN : N = uv nh * 4294967296 + uv nm) (hd : 1 ≤ uv dh) (hq : uv qh = N / uv dh) (hr : uv qr = N % uv dh) : QR nh nm dh qh qr 0 := by
  have r0 : 0 ≤ N % uv dh := Int.emod_nonneg _ (by omega)
  have r1 : N % uv dh < uv dh := Int.emod_lt_of_pos _ (by omega)
  have dm := Int.emod_add_mul_ediv N (uv dh)
  refine ⟨N % uv dh, ?_, r0, Or.inl r1, Or.inl ⟨rfl, hr⟩⟩
  rw [hq, Int.mul_comm, ← hN]; omega
theorem own_nlt {nh nm dh dl : Int32} (hi : uv nh * 4294967296 + uv nm < uv dh * 4294967296 + uv dl) (hne : ¬ nh = dh) : uv nh * 4294967296 + uv nm < uv dh * 4294967296 := by
  have a := uv_rng nh; have b := uv_rng nm; have c := uv_rng dh; have d := uv_rng dl
  have : ¬ uv nh = uv dh := fun q => hne (uv_inj q)
  omega
theorem qr_zero {nh nm nl dh dl qr sk : Int32} (hd : 2147483648 ≤ uv dh) (Q : QR nh nm dh 0 qr sk) : uv nh = 0 ∧ uv nm < uv dh ∧ uv nm * 4294967296 + uv nl < uv dh * 4294967296 + uv dl := by
  obtain ⟨r, h1, h2, h3, -⟩ := Q
  have z : uv (0 : Int32) = 0 := rfl
  have a := uv_rng nh; have b := uv_rng nm; have c := uv_rng dh; have d := uv_rng dl; have e := uv_rng nl
  rw [z] at h1 h3
  omega
theorem dg_skip {nh nm nl dh dl qh qr sk : Int32} (hd : 2147483648 ≤ uv dh) (hi : uv nh * 4294967296 + uv nm < uv dh * 4294967296 + uv dl) (Q : QR nh nm dh qh qr sk) (h : ¬ sk = 0) : DG nh nm nl dh dl qh := by
  obtain ⟨r, h1, h2, h3, h4⟩ := Q
  have a := uv_rng nh; have b := uv_rng nm; have c := uv_rng dh; have d := uv_rng dl; have e := uv_rng nl; have q := uv_rng qh
  have h4 : 4294967296 ≤ r := by rcases h4 with h4 | h4; exact absurd h4.1 h; exact h4.2
  have K := (knuth hd c.2 d.1 d.2 b.1 b.2 e.1 e.2 a.1 hi q.1 q.2 rfl rfl h1 h2 (h3.imp id fun u => u)).1
  have hp : uv qh * uv dl ≤ 4294967295 * 4294967295 := Int.mul_le_mul (by omega) (by omega) d.1 (by decide)
  have K := K (by omega)
  have ed : uv qh * (uv dh * 4294967296 + uv dl) = uv qh * uv dh * 4294967296 + uv qh * uv dl := by rw [Int.mul_add, Int.mul_assoc]
  exact ⟨by rw [ed]; exact K.1, by rw [ed]; exact K.2⟩
theorem uw_est (x y : Int32) : uw ((x.toInt64 &&& (4294967295 : Int64)) * (y.toInt64 &&& (4294967295 : Int64))) = uv y * uv x := by
  have a := uv_rng x; have b := uv_rng y
  have p0 : 0 ≤ uv x * uv y := Int.mul_nonneg a.1 b.1
  have p1 : uv x * uv y ≤ 4294967295 * 4294967295 := Int.mul_le_mul (by omega) (by omega) b.1 (by decide)
  have m := c_lmul (x.toInt64 &&& (4294967295 : Int64)) (y.toInt64 &&& (4294967295 : Int64))
  rw [m32, m32] at m
  rw [Int.mul_comm (uv y)]
  unfold uw; omega
theorem uw_rs (qr nl : Int32) : uw (((qr.toInt64 &&& (4294967295 : Int64)) <<< ((32 : Int32) &&& 63).toInt64) ||| (nl.toInt64 &&& (4294967295 : Int64))) = uv qr * 4294967296 + uv nl := by
  have r := uv_rng qr
  exact uw_chunkL nl (m32 qr) r.1 r.2
theorem uc_0 {x y : Int64} {X Y : Int} (hx : uw x = X) (hy : uw y = Y) (h : own_uc x y = 0) : ¬ Y < X := fun q => by
  rw [own_uc, hx, hy, if_pos q] at h; exact absurd h (by decide)
theorem uc_1 {x y : Int64} {X Y : Int} (hx : uw x = X) (hy : uw y = Y) (h : ¬ own_uc x y = 0) : Y < X := by
  refine Int.not_le.mp (fun q => h ?_)
  rw [own_uc, hx, hy, if_neg (by omega)]
theorem dg_0 {nh nm nl dh dl qh qr sk : Int32} (hd : 2147483648 ≤ uv dh) (hi : uv nh * 4294967296 + uv nm < uv dh * 4294967296 + uv dl) (Q : QR nh nm dh qh qr sk) (h : sk = 0) (hc : ¬ uv qr * 4294967296 + uv nl < uv qh * uv dl) : DG nh nm nl dh dl qh := by
  obtain ⟨r, h1, h2, h3, h4⟩ := Q
  have a := uv_rng nh; have b := uv_rng nm; have c := uv_rng dh; have d := uv_rng dl; have e := uv_rng nl; have q := uv_rng qh
  have h4 : uv qr = r := by rcases h4 with h4 | h4; exact h4.2; exact absurd h h4.1
  rw [h4] at hc
  have K := (knuth hd c.2 d.1 d.2 b.1 b.2 e.1 e.2 a.1 hi q.1 q.2 rfl rfl h1 h2 (h3.imp id fun u => u)).1 hc
  have ed : uv qh * (uv dh * 4294967296 + uv dl) = uv qh * uv dh * 4294967296 + uv qh * uv dl := by rw [Int.mul_add, Int.mul_assoc]
  exact ⟨by rw [ed]; exact K.1, by rw [ed]; exact K.2⟩
theorem uv_dec {x : Int32} (h : 1 ≤ uv x) : uv (x + (-1 : Int32)) = uv x - 1 := by
  have a := c_iadd x (-1); have r := rng32 (x + (-1 : Int32)); have e : (-1 : Int32).toInt = -1 := rfl
  unfold uv at *; omega
theorem own_ge1 {x : Int} (h : 2 ≤ x) : 1 ≤ x - 1 := by omega
theorem dg_1 {nh nm nl dh dl qh qr sk : Int32} (hd : 2147483648 ≤ uv dh) (hi : uv nh * 4294967296 + uv nm < uv dh * 4294967296 + uv dl) (Q : QR nh nm dh qh qr sk) (h : sk = 0) (hc : uv qr * 4294967296 + uv nl < uv qh * uv dl) :
    1 ≤ uv qh ∧ uv dl ≤ uv qh * uv dl ∧ ((4294967296 ≤ uv qr + uv dh ∨ ¬ (uv qr + uv dh) * 4294967296 + uv nl < uv qh * uv dl - uv dl) → DG nh nm nl dh dl (qh + (-1))) ∧ (uv qr + uv dh < 4294967296 → (uv qr + uv dh) * 4294967296 + uv nl < uv qh * uv dl - uv dl → DG nh nm nl dh dl (qh + (-1) + (-1))) := by
  obtain ⟨r, h1, h2, h3, h4⟩ := Q
  have a := uv_rng nh; have b := uv_rng nm; have c := uv_rng dh; have d := uv_rng dl; have e := uv_rng nl; have q := uv_rng qh
  have h4 : uv qr = r := by rcases h4 with h4 | h4; exact h4.2; exact absurd h h4.1
  rw [h4] at hc ⊢
  obtain ⟨k1, k2, k3⟩ := (knuth hd c.2 d.1 d.2 b.1 b.2 e.1 e.2 a.1 hi q.1 q.2 rfl rfl h1 h2 (h3.imp id fun u => u)).2 hc
  have ed : uv qh * (uv dh * 4294967296 + uv dl) = uv qh * uv dh * 4294967296 + uv qh * uv dl := by rw [Int.mul_add, Int.mul_assoc]
  have u1 := uv_dec k1
  have e1 : (uv qh - 1) * (uv dh * 4294967296 + uv dl) = uv qh * uv dh * 4294967296 + uv qh * uv dl - (uv dh * 4294967296 + uv dl) := by rw [Int.sub_mul, Int.one_mul, ed]
  refine ⟨k1, ?_, fun w => ?_, fun w w' => ?_⟩
  · have := Int.mul_le_mul_of_nonneg_right k1 d.1
    omega
  · have k2 := k2 w
    refine ⟨?_, ?_⟩ <;> rw [u1, e1]
    · exact k2.1
    · omega
  · obtain ⟨k4, k5, k6⟩ := k3 w w'
    have u2 := uv_dec (x := qh + (-1)) (by rw [u1]; exact own_ge1 k4)
    have e2 : (uv qh - 1 - 1) * (uv dh * 4294967296 + uv dl) = uv qh * uv dh * 4294967296 + uv qh * uv dl - 2 * (uv dh * 4294967296 + uv dl) := by rw [Int.sub_mul, Int.one_mul, e1]; omega
    refine ⟨?_, ?_⟩ <;> rw [u2, u1, e2]
    · exact k5
    · omega
theorem own_q2 {qr dh : Int32} {D : Int64} (hD : D.toInt = uv dh) : uv (((qr.toInt64 &&& (4294967295 : Int64)) + D).toInt32) = (uv qr + uv dh) % 4294967296 := by
  have a := c_ladd (qr.toInt64 &&& (4294967295 : Int64)) D
  rw [m32, hD] at a
  rw [uv_l2i]
  omega
theorem own_q2lt {qr dh q2 : Int32} {D : Int64} (hD : D.toInt = uv dh) (e : uv q2 = (uv qr + uv dh) % 4294967296) (h : (q2.toInt64 &&& (4294967295 : Int64)) < D) : 4294967296 ≤ uv qr + uv dh := by
  rw [Int64.lt_iff_toInt_lt, m32, hD, e] at h
  have a := uv_rng qr; have b := uv_rng dh
  omega
theorem own_q2ge {qr dh q2 : Int32} {D : Int64} (hD : D.toInt = uv dh) (e : uv q2 = (uv qr + uv dh) % 4294967296) (h : ¬ (q2.toInt64 &&& (4294967295 : Int64)) < D) : uv qr + uv dh < 4294967296 ∧ uv q2 = uv qr + uv dh := by
  rw [Int64.lt_iff_toInt_lt, m32, hD, e] at h
  have a := uv_rng qr; have b := uv_rng dh
  omega
theorem uw_est2 {E : Int64} {P : Int} (dl : Int32) (hE : uw E = P) (h : uv dl ≤ P) : uw (E - (dl.toInt64 &&& (4294967295 : Int64))) = P - uv dl := by
  have a := c_lsub E (dl.toInt64 &&& (4294967295 : Int64))
  have d := uv_rng dl
  have r := uw_rng E
  rw [m32] at a
  unfold uw at *
  omega
theorem ms_end {nh nm nl dh dl q z w1 w2 : Int32} {c : Int} (G : DG nh nm nl dh dl q) (hz : uv z = c % 4294967296) (h0 : 0 ≤ c) (h1 : c ≤ 4294967296) (he : uv nm * 4294967296 + uv nl - (uv dh * uv q * 4294967296 + uv dl * uv q) = uv w1 * 4294967296 + uv w2 - c * 18446744073709551616) :
    z = nh ∧ uv w1 * 4294967296 + uv w2 < uv dh * 4294967296 + uv dl ∧ (uv nh * 4294967296 + uv nm) * 4294967296 + uv nl = uv q * (uv dh * 4294967296 + uv dl) + (uv w1 * 4294967296 + uv w2) := by
  obtain ⟨g1, g2⟩ := G
  have a := uv_rng nh; have b := uv_rng nm; have c' := uv_rng dh; have d := uv_rng dl; have e := uv_rng nl; have r1 := uv_rng w1; have r2 := uv_rng w2
  have ed : uv q * (uv dh * 4294967296 + uv dl) = uv dh * uv q * 4294967296 + uv dl * uv q := by rw [Int.mul_add, ← Int.mul_assoc, Int.mul_comm (uv q), Int.mul_comm (uv q)]
  rw [ed] at g1 g2 ⊢
  generalize uv dh * uv q = A at *
  generalize uv dl * uv q = B at *
  have hc : c = uv nh := by omega
  refine ⟨uv_inj (by rw [hz, hc]; omega), by omega, by omega⟩
theorem own_nle (z x : Int32) (h : z = x) : ¬ x + (-2147483648 : Int32) < z + (-2147483648 : Int32) := by
  subst h; rw [iw_lt]; omega
theorem own_norm {d0 : Int} {s : Nat} (N : NZ d0 s) (h0 : 1 ≤ d0) (h1 : d0 < 2147483648) : 1 ≤ s ∧ s ≤ 31 ∧ 2147483648 ≤ (d0 * ((2 ^ s : Nat) : Int)) % 4294967296 ∧ d0 * ((2 ^ s : Nat) : Int) < 4294967296 := by
  obtain ⟨hs, h2⟩ := N
  rcases h2 with ⟨a, -⟩ | ⟨a, b, c⟩
  · omega
  · have hs1 : 1 ≤ s := by
      rcases Nat.eq_zero_or_pos s with q | q
      · subst q
        have b : (2147483648 : Int) ≤ d0 := b
        omega
      · exact q
    have pos : (0 : Int) < ((2 ^ s : Nat) : Int) := by exact_mod_cast Nat.pos_of_ne_zero (by simp)
    have p1 : ((2 ^ (31 - s) : Nat) : Int) * ((2 ^ s : Nat) : Int) = 2147483648 := by
      have : 2 ^ (31 - s) * 2 ^ s = 2147483648 := by rw [← Nat.pow_add, show 31 - s + s = 31 by omega]
      rw [← Int.natCast_mul, this]; rfl
    have p2 : ((2 ^ (32 - s) : Nat) : Int) * ((2 ^ s : Nat) : Int) = 4294967296 := by
      have : 2 ^ (32 - s) * 2 ^ s = 4294967296 := by rw [← Nat.pow_add, show 32 - s + s = 32 by omega]
      rw [← Int.natCast_mul, this]; rfl
    have m1 := Int.mul_le_mul_of_nonneg_right b (show (0 : Int) ≤ ((2 ^ s : Nat) : Int) by omega)
    have m2 := Int.mul_lt_mul_of_pos_right c pos
    rw [p1] at m1; rw [p2] at m2
    exact ⟨hs1, a, by omega, m2⟩
theorem nz_le {x y : Int} {s k : Nat} (Nx : NZ x k) (Ny : NZ y s) (h0 : 1 ≤ x) (h : x ≤ y) : s ≤ k := by
  obtain ⟨hk, hx⟩ := Nx; obtain ⟨hs, hy⟩ := Ny
  rcases hy with ⟨a, -⟩ | ⟨a, b, c⟩
  · omega
  · rcases hx with ⟨a', -⟩ | ⟨a', b', c'⟩
    · omega
    · refine Nat.not_lt.mp (fun q => ?_)
      have : ((2 ^ (32 - s) : Nat) : Int) ≤ ((2 ^ (31 - k) : Nat) : Int) := pw_le (a := (32 - s)) (b := (31 - k)) (by omega)
      omega
theorem nz_top {x : Int} {k : Nat} (N : NZ x k) (h : x = 2147483648) : k = 0 := by
  obtain ⟨hk, hx⟩ := N
  rcases hx with ⟨a, -⟩ | ⟨a, b, c⟩
  · omega
  · rcases Nat.eq_zero_or_pos k with q | q
    · exact q
    · have : ((2 ^ (32 - k) : Nat) : Int) ≤ 2147483648 := pw_le (a := (32 - k)) (b := 31) (by omega)
      omega
theorem own_r1 {x y s : Int} (h : 1 ≤ x) (hs : 1 ≤ s) (hl : x * s < 4294967296) (hy : 0 ≤ y) : 1 ≤ (x * s) % 4294967296 + y := by
  have := Int.mul_le_mul h hs (by decide) (by omega)
  omega
def BigW (k : Nat) (g : Nat → Int32) (x : Int) : Prop := (k = 1 ∧ uv (g 0) = x) ∨ (k = 2 ∧ uv (g 0) * 4294967296 + uv (g 1) = x ∧ 1 ≤ uv (g 0))
theorem own_big1 {x : Int64} {g : Nat → Int32} (h0 : 0 ≤ x.toInt) (e : g 0 = x.toInt32) (hz : ((x.toUInt64 >>> ((32 : Int32) &&& 63).toInt64.toUInt64).toInt64).toInt32 = 0) : BigW 1 g x.toInt := by
  have a := uv_hi x; rw [hz] at a
  have b := uv_l2i x; have z : uv (0 : Int32) = 0 := rfl
  have r := rng64 x
  unfold uw at a
  exact Or.inl ⟨rfl, by rw [e, b]; omega⟩
theorem own_big2 {x : Int64} {g : Nat → Int32} (h0 : 0 ≤ x.toInt) (e : g 0 = ((x.toUInt64 >>> ((32 : Int32) &&& 63).toInt64.toUInt64).toInt64).toInt32) (e1 : g 1 = x.toInt32) (hz : ¬ ((x.toUInt64 >>> ((32 : Int32) &&& 63).toInt64.toUInt64).toInt64).toInt32 = 0) : BigW 2 g x.toInt := by
  have a := uv_hi x
  have b := uv_l2i x
  have r := rng64 x
  have q : ¬ uv ((x.toUInt64 >>> ((32 : Int32) &&& 63).toInt64.toUInt64).toInt64).toInt32 = 0 := fun q => hz (i_of q)
  have u := uv_rng ((x.toUInt64 >>> ((32 : Int32) &&& 63).toInt64.toUInt64).toInt64).toInt32
  refine Or.inr ⟨rfl, ?_, by rw [e]; omega⟩
  rw [e, e1, a, b]; unfold uw; omega
theorem own_sh5 {n : Nat} (h : n < 1000) : ((Int32.ofNat n).toUInt32 >>> ((5 : Int32) &&& 31).toUInt32).toInt32 = Int32.ofNat (n / 32) := by
  have e : (((Int32.ofNat n).toUInt32 >>> ((5 : Int32) &&& 31).toUInt32).toInt32).toInt = ((Int32.ofNat n).toInt % 4294967296) / 32 := c_iushr (Int32.ofNat n) 5 5 (by decide) (by decide)
  apply Int32.toInt_inj.mp
  rw [e, toInt_of rfl (by omega), toInt_of rfl (by omega)]; omega
theorem own_and31 {n : Nat} (h : n < 1000) : Int32.ofNat n &&& (31 : Int32) = Int32.ofNat (n % 32) := by
  have e : (Int32.ofNat n &&& (31 : Int32)).toInt = (Int32.ofNat n).toInt % 32 := c_mask (Int32.ofNat n) 31 5 (by decide) (by decide)
  apply Int32.toInt_inj.mp
  rw [e, toInt_of rfl (by omega), toInt_of rfl (by omega)]; omega
theorem own_hb {g0 : Int32} (e : uv g0 = 1) {r : Nat} (h1 : 1 ≤ r) (h2 : r ≤ 31) : (g0.toUInt32 >>> (((32 : Int32) - Int32.ofNat r) &&& 31).toUInt32).toInt32 = 0 := by
  have es : (32 : Int32) - Int32.ofNat r = Int32.ofNat (32 - r) := by
    apply Int32.toInt_inj.mp
    have a := c_isub 32 (Int32.ofNat r)
    have q := rng32 ((32 : Int32) - Int32.ofNat r)
    rw [toInt_of rfl (by omega)] at a ⊢
    have e : (32 : Int32).toInt = 32 := rfl
    omega
  have q : (Int32.ofNat (32 - r)).toBitVec.toNat % 32 = 32 - r := by
    have := uv_nat (Int32.ofNat (32 - r))
    rw [uv, toInt_of rfl (by omega)] at this
    omega
  have u := c_iushr g0 (Int32.ofNat (32 - r)) (32 - r) q (by omega)
  apply Int32.toInt_inj.mp
  rw [es, u]
  have p : (2 : Int) ≤ ((2 ^ (32 - r) : Nat) : Int) := pw_le (a := 1) (b := (32 - r)) (by omega)
  have e : g0.toInt % 4294967296 = 1 := e
  rw [e]
  exact Int.ediv_eq_zero_of_lt (by decide) (by omega)
theorem own_pw {g0 : Int32} (e : uv g0 = 1) {r : Nat} (h : r ≤ 31) : uv (g0 <<< (Int32.ofNat r &&& 31)) = ((2 ^ r : Nat) : Int) := by
  rw [sh_lo g0 h, e, Int.one_mul]
  have p : ((2 ^ r : Nat) : Int) ≤ 2147483648 := pw_le (a := r) (b := 31) h
  exact Int.emod_eq_of_lt (Int.natCast_nonneg _) (by omega)
theorem own_1p (k : Nat) : Int32.ofNat 1 + Int32.ofNat k = Int32.ofNat (k + 1) := by rw [← Int32.ofNat_add, Nat.add_comm]
theorem own_64 {b : Nat} (h : b ≤ 63) : (64 : Int32) - Int32.ofNat (64 - b) = Int32.ofNat b := by
  apply Int32.toInt_inj.mp
  have a := c_isub 64 (Int32.ofNat (64 - b)); have r := rng32 ((64 : Int32) - Int32.ofNat (64 - b))
  rw [toInt_of rfl (by omega)] at a ⊢
  have e : (64 : Int32).toInt = 64 := rfl
  omega
theorem own_63 (b : Nat) : (63 : Int32) + Int32.ofNat b = Int32.ofNat (63 + b) := (Int32.ofNat_add 63 b).symm
theorem own_l1 {d : Int64} (h : 1 ≤ d.toInt) : (d - 1).toInt = d.toInt - 1 := by
  have a := c_lsub d 1; have r := rng64 (d - 1); have r' := rng64 d
  have e : (1 : Int64).toInt = 1 := rfl
  omega
theorem own_s1 {x : Int32} (y : Int32) (hx : x = 0) : (((x.toInt64 &&& (4294967295 : Int64)) + (y.toInt64 &&& (4294967295 : Int64))).toUInt64 >>> ((32 : Int32) &&& 63).toInt64.toUInt64).toInt64 = 0 := by
  have z : uv x = 0 := by rw [hx]; rfl
  have b := uv_rng y
  have a := c_ladd (x.toInt64 &&& (4294967295 : Int64)) (y.toInt64 &&& (4294967295 : Int64))
  rw [m32, m32, z] at a
  have r := rng64 ((x.toInt64 &&& (4294967295 : Int64)) + (y.toInt64 &&& (4294967295 : Int64)))
  have e := c_lushr ((x.toInt64 &&& (4294967295 : Int64)) + (y.toInt64 &&& (4294967295 : Int64))) 32 32 (by decide) (by decide)
  apply Int64.toInt_inj.mp
  have z0 : (0 : Int64).toInt = 0 := rfl
  have e : ((((x.toInt64 &&& (4294967295 : Int64)) + (y.toInt64 &&& (4294967295 : Int64))).toUInt64 >>> ((32 : Int32) &&& 63).toInt64.toUInt64).toInt64).toInt = (((x.toInt64 &&& (4294967295 : Int64)) + (y.toInt64 &&& (4294967295 : Int64))).toInt % 18446744073709551616) / 4294967296 := e
  rw [e, z0]; omega
theorem own_s2 {x : Int32} (y : Int32) {c : Int64} (hx : x = 0) (hc : c = 0) : (((x.toInt64 &&& (4294967295 : Int64)) + (y.toInt64 &&& (4294967295 : Int64)) + c).toUInt64 >>> ((32 : Int32) &&& 63).toInt64.toUInt64).toInt64 = 0 := by
  rw [hc, Int64.add_zero]; exact own_s1 y hx
def OneW (kc : Nat) (c0 d0 : Int) : Prop := (kc = 2 ∧ 1 ≤ c0 ∧ d0 = 1) ∨ (kc = 3 ∧ 1 ≤ c0 ∧ c0 < d0)
def TwoW (kc : Nat) (c0 d0 : Int) : Prop := (kc = 4 ∧ 1 ≤ c0 ∧ c0 ≤ d0 ∧ d0 < 2147483648) ∨ (kc = 3 ∧ c0 = 2147483648 ∧ d0 = 1)
def DivOk (kc kd : Nat) (c0 d0 : Int) : Prop := kd = 1 ∧ OneW kc c0 d0 ∨ kd = 2 ∧ TwoW kc c0 d0
theorem own_pw2 {a b : Nat} : ((2 ^ (a + b) : Nat) : Int) = ((2 ^ a : Nat) : Int) * ((2 ^ b : Nat) : Int) := by rw [Nat.pow_add, Int.natCast_mul]
theorem own_ok {X d c0 : Int} {b kd : Nat} {gd : Nat → Int32} (B : LB X b) (hX : d = X + 1) (hd : d < 9223372036854775808) (hc : c0 = ((2 ^ ((63 + b) % 32) : Nat) : Int)) (W : BigW kd gd d) : DivOk ((63 + b) / 32 + 1) kd c0 (uv (gd 0)) := by
  obtain ⟨hb, hB⟩ := B
  have g0 := uv_rng (gd 0); have g1 := uv_rng (gd 1)
  rcases hB with ⟨h1, rfl⟩ | ⟨h1, h2, h3⟩
  · have hc : c0 = 2147483648 := hc
    rcases W with ⟨rfl, w⟩ | ⟨rfl, w, w'⟩
    · exact Or.inl ⟨rfl, Or.inl ⟨rfl, by omega, by omega⟩⟩
    · omega
  · rcases (show b ≤ 32 ∨ 33 ≤ b by omega) with q | q
    · have e1 : (63 + b) / 32 + 1 = 3 := by omega
      have e2 : (63 + b) % 32 = b - 1 := by omega
      rw [e2] at hc
      have p : (1 : Int) ≤ ((2 ^ (b - 1) : Nat) : Int) := pw_le (a := 0) (b := (b - 1)) (by omega)
      rw [e1]
      rcases W with ⟨rfl, w⟩ | ⟨rfl, w, w'⟩
      · exact Or.inl ⟨rfl, Or.inr ⟨rfl, by omega, by omega⟩⟩
      · have pb : ((2 ^ b : Nat) : Int) ≤ 4294967296 := pw_le (a := b) (b := 32) q
        have b32 : b = 32 := by
          refine Nat.le_antisymm q (Nat.not_lt.mp fun u => ?_)
          have pb : ((2 ^ b : Nat) : Int) ≤ 2147483648 := pw_le (a := b) (b := 31) (by omega)
          omega
        subst b32
        have hc : c0 = 2147483648 := hc
        exact Or.inr ⟨rfl, Or.inr ⟨rfl, hc, by omega⟩⟩
    · have e1 : (63 + b) / 32 + 1 = 4 := by omega
      have e2 : (63 + b) % 32 = b - 33 := by omega
      rw [e2] at hc
      have p : (1 : Int) ≤ ((2 ^ (b - 33) : Nat) : Int) := pw_le (a := 0) (b := (b - 33)) (by omega)
      have p2 : ((2 ^ (b - 1) : Nat) : Int) = ((2 ^ (b - 33) : Nat) : Int) * 4294967296 := by
        rw [show b - 1 = (b - 33) + 32 by omega]; exact own_pw2
      rw [e1]
      rcases W with ⟨rfl, w⟩ | ⟨rfl, w, w'⟩
      · omega
      · exact Or.inr ⟨rfl, Or.inl ⟨rfl, by omega, by omega, by omega⟩⟩
theorem own_two {X : Int} {b kb : Nat} {gb : Nat → Int32} (B : LB X b) (h : 1 ≤ X) (W : BigW kb gb X) : ((63 + b) / 32 + 1 = 3 ∧ kb = 1) ∨ ((63 + b) / 32 + 1 = 4 ∧ kb = 2) := by
  obtain ⟨hb, hB⟩ := B
  have g0 := uv_rng (gb 0); have g1 := uv_rng (gb 1)
  rcases hB with ⟨h1, rfl⟩ | ⟨h1, h2, h3⟩
  · omega
  · rcases (show b ≤ 32 ∨ 33 ≤ b by omega) with q | q
    · have pb : ((2 ^ b : Nat) : Int) ≤ 4294967296 := pw_le (a := b) (b := 32) q
      rcases W with ⟨rfl, w⟩ | ⟨rfl, w, w'⟩
      · exact Or.inl ⟨by omega, rfl⟩
      · omega
    · have pb : (4294967296 : Int) ≤ ((2 ^ (b - 1) : Nat) : Int) := pw_le (a := 32) (b := (b - 1)) (by omega)
      rcases W with ⟨rfl, w⟩ | ⟨rfl, w, w'⟩
      · omega
      · exact Or.inr ⟨by omega, rfl⟩
theorem own_toF {Z : State} {h : Heap} {a : Addr} {N : Int32} {f : Int32 → Value} (A : Ia Z h a .int N f) (hf : ∀ j, ∃ x, f j = .int x) : ∃ g : Nat → Int32, Ia Z h a .int N (intF g) ∧ ∀ i, f (Int32.ofNat i) = .int (g i) := by
  refine ⟨fun i => match f (Int32.ofNat i) with | .int x => x | _ => 0, A.congr (fun j h1 _ => ?_), fun i => ?_⟩
  · obtain ⟨x, hx⟩ := hf j
    have hb : j.toNatClampNeg < 2 ^ 31 := by
      have := Int32.toInt_lt j
      simp only [Int32.toNatClampNeg]; omega
    have ej : Int32.ofNat j.toNatClampNeg = j := ((own_clamp h1 hb).mpr rfl).symm
    show f j = .int (match f (Int32.ofNat j.toNatClampNeg) with | .int x => x | _ => 0)
    rw [ej, hx]
  · obtain ⟨x, hx⟩ := hf (Int32.ofNat i)
    show f (Int32.ofNat i) = .int (match f (Int32.ofNat i) with | .int x => x | _ => 0)
    rw [hx]
theorem own_ifI {f : Int32 → Value} (hf : ∀ j, ∃ x, f j = .int x) (c y : Int32) : ∀ j, ∃ x, (fun k_ => if k_ = c then Value.int y else f k_) j = .int x := fun j => by
  by_cases q : j = c
  · exact ⟨y, if_pos q⟩
  · obtain ⟨x, hx⟩ := hf j; exact ⟨x, (if_neg q).trans hx⟩
theorem own_ifN {f g : Int32 → Value} (hf : ∀ j, ∃ x, f j = .int x) (hg : ∀ j, ∃ x, g j = .int x) (N : Nat) : ∀ j, ∃ x, (fun j : Int32 => if j.toNatClampNeg < N then f j else g j) j = .int x := fun j => by
  by_cases q : j.toNatClampNeg < N
  · obtain ⟨x, hx⟩ := hf j; exact ⟨x, (if_pos q).trans hx⟩
  · obtain ⟨x, hx⟩ := hg j; exact ⟨x, (if_neg q).trans hx⟩
theorem own_pos1 {x : Int64} (h : 0 ≤ x.toInt) (q : ¬ x = 0) : 1 ≤ x.toInt := by
  have : ¬ x.toInt = 0 := fun u => q (Int64.toInt_inj.mp u)
  omega
theorem own_gt0 {x : Int64} (h : 1 ≤ x.toInt) : 0 < x := Int64.lt_iff_toInt_lt.mpr (by have : (0 : Int64).toInt = 0 := rfl; omega)
theorem own_ix {x : Int64} (h1 : 1 ≤ x.toInt) (h : ¬ 16 < x) : ∃ i : Nat, 1 ≤ i ∧ i ≤ 16 ∧ x.toInt32 = Int32.ofNat i ∧ (i : Int) = x.toInt := by
  have h : ¬ (16 : Int64).toInt < x.toInt := fun q => h (Int64.lt_iff_toInt_lt.mpr q)
  have e : (16 : Int64).toInt = 16 := rfl
  refine ⟨x.toInt.toNat, by omega, by omega, ?_, by omega⟩
  apply Int32.toInt_inj.mp
  have a := c_l2i x; have r := rng32 x.toInt32
  rw [toInt_of rfl (by omega)]; omega
def Sts (Z : State) : Prop := (∃ (t m : Addr) (g : Nat → Int32), Sta Z Z.heap "java/math/BigInteger" "ONE" "Ljava/math/BigInteger;" (.ref t) ∧ Exa Z Z.heap t "java/math/BigInteger" ∧ Fld Z Z.heap t "java/math/BigInteger" "signum" "I" (.int (1 : Int32)) ∧ Fld Z Z.heap t "java/math/BigInteger" "mag" "[I" (.ref m) ∧ Ia Z Z.heap m .int (Int32.ofNat 1) (intF g) ∧ uv (g 0) = 1) ∧ (∃ t : Addr, Sta Z Z.heap "java/math/BigInteger" "ZERO" "Ljava/math/BigInteger;" (.ref t) ∧ Fld Z Z.heap t "java/math/BigInteger" "signum" "I" (.int (0 : Int32))) ∧ ∃ (pa : Addr) (pf : Int32 → Value), Sta Z Z.heap "java/math/BigInteger" "posConst" "[Ljava/math/BigInteger;" (.ref pa) ∧ Ia Z Z.heap pa (.object "java/math/BigInteger") (Int32.ofNat 17) pf ∧ ∀ i : Nat, 1 ≤ i → i ≤ 16 → ∃ (t m : Addr) (g : Nat → Int32), pf (Int32.ofNat i) = .ref t ∧ Exa Z Z.heap t "java/math/BigInteger" ∧ Fld Z Z.heap t "java/math/BigInteger" "signum" "I" (.int (1 : Int32)) ∧ Fld Z Z.heap t "java/math/BigInteger" "mag" "[I" (.ref m) ∧ Ia Z Z.heap m .int (Int32.ofNat 1) (intF g) ∧ uv (g 0) = i
theorem own_hold {Z : State} {h h' : Heap} {ws : List Addr} (E : Ext Z.heap h) (K : Keep h h' ws) (hws : ∀ w ∈ ws, Z.heap.size ≤ w) : Ext Z.heap h' := ⟨Nat.le_trans E.1 K.1, fun x c q => K.2.1 x c (E.2 x c q) (fun u => absurd (hws x u) (Nat.not_le.mpr (by
  obtain ⟨ha, -⟩ := Array.getElem?_eq_some_iff.mp q; exact ha)))⟩
theorem own_ll {x y : Int64} {X Y : Int} (hx : x.toInt = X) (hy : y.toInt = Y) (h : X < Y) : x < y := Int64.lt_iff_toInt_lt.mpr (by omega)
theorem own_lg {x y : Int64} {X Y : Int} (hx : x.toInt = X) (hy : y.toInt = Y) (h : Y ≤ X) : ¬ x < y := fun q => by
  have := Int64.lt_iff_toInt_lt.mp q; omega
theorem own_Dn {D : Int64} {u : Int} (hD : D.toInt = u) (h : 1 ≤ u) : D ≠ 0 := fun q => by
  rw [q] at hD; have : (0 : Int64).toInt = 0 := rfl; omega
theorem own_xn {x : Int32} (h : 1 ≤ uv x) : x ≠ 0 := fun q => by
  rw [q] at h; have : uv (0 : Int32) = 0 := rfl; omega
theorem own_qpos {q : Int32} {N u : Int} (h : uv q = N / u) (hu : 1 ≤ u) (hN : u ≤ N) : ¬ q = 0 := fun e => by
  have : 1 ≤ N / u := Int.le_ediv_of_mul_le (by omega) (by omega)
  rw [e] at h; have : uv (0 : Int32) = 0 := rfl; omega
theorem own_uwR {R : Int64} {u : Int} (h : R.toInt = u) (h0 : 0 ≤ u) : uw R = u := by
  have r := rng64 R; unfold uw; omega
theorem own_est0 {est : Int64} {N : Int} (h : uw est = N) (hN : N < 9223372036854775808) : ¬ est < 0 := fun q => by
  have q : est.toInt < 0 := Int64.lt_iff_toInt_lt.mp q
  have r := rng64 est; unfold uw at h; omega
def G2 (s t : Slot) : Prop := (∃ z : Int64, s = .val (.long z) ∧ t = .second) ∨ (t = .unset ∧ (s = .unset ∨ ∃ z : Int32, s = .val (.int z)))
theorem g2U : G2 .unset .unset := Or.inr ⟨rfl, Or.inl rfl⟩
theorem g2I (z : Int32) : G2 (.val (.int z)) .unset := Or.inr ⟨rfl, Or.inr ⟨z, rfl⟩⟩
theorem g2J (z : Int64) : G2 (.val (.long z)) .second := Or.inl ⟨z, rfl, rfl⟩
theorem own_dm0 {g : Nat → Int32} {dh dl : Int} (h0 : g 0 = 0) (hd : 2147483648 ≤ dh) (hl : 0 ≤ dl) : uv (g 0) * 4294967296 + uv (g 1) < dh * 4294967296 + dl := by
  have a := uv_rng (g 1); have z : uv (0 : Int32) = 0 := rfl
  rw [h0, z]; omega
theorem own_mulle {c d : Int} (h : 1 ≤ c) (h2 : c ≤ d) {n : Nat} (hs : d * ((2 ^ n : Nat) : Int) < 4294967296) : c * ((2 ^ n : Nat) : Int) < 4294967296 := by
  have := Int.mul_le_mul_of_nonneg_right h2 (Int.natCast_nonneg (2 ^ n)); omega
theorem own_r3 {c : Int32} {s : Nat} (h : uv c = 2147483648) (h1 : 1 ≤ s) : 1 ≤ (uv (0 : Int32) * ((2 ^ s : Nat) : Int)) % 4294967296 + uv c / ((2 ^ (32 - s) : Nat) : Int) := by
  have z : uv (0 : Int32) = 0 := rfl
  have p : ((2 ^ (32 - s) : Nat) : Int) ≤ 2147483648 := pw_le (a := 32 - s) (b := 31) (by omega)
  have p0 : (1 : Int) ≤ ((2 ^ (32 - s) : Nat) : Int) := pw_le (a := 0) (b := 32 - s) (Nat.zero_le _)
  have : 1 ≤ uv c / ((2 ^ (32 - s) : Nat) : Int) := Int.le_ediv_of_mul_le (by omega) (by omega)
  rw [z, Int.zero_mul]; omega
theorem Three.prod {c r p : Int64} (h : Three c r p) : (c * p).toInt = c.toInt * p.toInt ∧ 1 ≤ c.toInt * p.toInt ∧ c.toInt * p.toInt ≤ 9223372036854775807 := by
  obtain ⟨h1, h2, h3, h4⟩ := h
  have q1 : c.toInt * p.toInt ≤ 9223372036854775807 / p.toInt * p.toInt := Int.mul_le_mul_of_nonneg_right h4 (by omega)
  have q2 : 9223372036854775807 / p.toInt * p.toInt ≤ 9223372036854775807 := Int.ediv_mul_le _ (by omega)
  have q3 : 1 * 1 ≤ c.toInt * p.toInt := Int.mul_le_mul h3 h1 (by decide) (by omega)
  exact ⟨own_mul rfl rfl (by omega) (by omega), by omega, by omega⟩
theorem own_q1 (d : Int64) : 1 ≤ (9223372036854775807 / own_max 1 (d &&& 9223372036854775807) : Int64).toInt := by
  have hp := own_pos d
  have rp := rng64 (own_max 1 (d &&& 9223372036854775807))
  rw [own_div (by rw [own_cM]; decide) hp, own_cM]
  apply Int.le_ediv_of_mul_le (by omega); omega
theorem own_three (a b e : Int64) : Three (own_max 1 (a &&& 9223372036854775807)) (own_max 1 (e &&& 9223372036854775807)) (1 + (b &&& 9223372036854775807) % (9223372036854775807 / own_max 1 (a &&& 9223372036854775807))) := by
  have hp := own_pos a
  have hr := own_pos e
  generalize own_max 1 (a &&& 9223372036854775807) = p at *
  generalize own_max 1 (e &&& 9223372036854775807) = r at *
  have rp := rng64 p
  have hm := c_maskL b 9223372036854775807 63 (by decide) (by decide)
  have hq : (9223372036854775807 / p : Int64).toInt = 9223372036854775807 / p.toInt := own_div (by rw [own_cM]; decide) hp
  have hq1 : 1 ≤ 9223372036854775807 / p.toInt := by
    apply Int.le_ediv_of_mul_le (by omega); omega
  have hz : ((b &&& 9223372036854775807) % (9223372036854775807 / p)).toInt = (b &&& 9223372036854775807).toInt % (9223372036854775807 / p.toInt) := by
    rw [own_mod (by omega), hq]
  have b1 := Int.emod_nonneg (b &&& 9223372036854775807).toInt (show (9223372036854775807 / p.toInt : Int) ≠ 0 by omega)
  have b2 := Int.emod_lt_of_pos (b &&& 9223372036854775807).toInt (show (0 : Int) < 9223372036854775807 / p.toInt by omega)
  have b3 : 9223372036854775807 / p.toInt ≤ 9223372036854775807 := Int.ediv_le_self _ (by decide)
  have hs := own_add (a := 1) (b := (b &&& 9223372036854775807) % (9223372036854775807 / p)) rfl hz (by rw [own_c1]; omega) (by rw [own_c1]; omega)
  rw [own_c1] at hs
  refine ⟨by omega, hr, hp, ?_⟩
  have k1 : 1 + (b &&& 9223372036854775807).toInt % (9223372036854775807 / p.toInt) ≤ 9223372036854775807 / p.toInt := by omega
  have k2 := Int.mul_le_mul_of_nonneg_left k1 (show (0 : Int) ≤ p.toInt by omega)
  have k3 : p.toInt * (9223372036854775807 / p.toInt) ≤ 9223372036854775807 := Int.mul_ediv_self_le (by omega)
  rw [hs]
  exact Int.le_ediv_of_mul_le (by omega) (by omega)
def own_z (f q : Int64) : Int32 := if q < 0 then (if 0 < f - q then 1 else 0) else 1
theorem own_fm {c r p : Int64} (h : Three c r p) : (c * p - 9223372036854775807).toInt = c.toInt * p.toInt - 9223372036854775807 := by
  obtain ⟨e, h1, h2⟩ := h.prod
  exact own_sub e own_cM (by omega) (by omega)
theorem own_hv {f x : Int64} {F X : Int} (hf : (f - 9223372036854775807).toInt = F) (hx : x.toInt = X) (h : F ≤ X) : own_h f x = 1 := by
  unfold own_h; rw [if_neg (fun q => by rw [Int64.lt_iff_toInt_lt] at q; omega)]
theorem own_law1 {c r p q : Int64} {z : Int32} (h : Three c r p) (hz : z = own_z (c * p) q) : own_h (c * p) q = z := by
  obtain ⟨e, h1, h2⟩ := h.prod
  have ef := own_fm h
  have rq := rng64 q
  rw [hz]; unfold own_z
  by_cases q0 : q < 0
  · rw [if_pos q0]
    rw [Int64.lt_iff_toInt_lt, own_c0] at q0
    have s := c_lsub (c * p) q; have rs := rng64 (c * p - q)
    rw [e] at s
    by_cases q1 : 0 < c * p - q
    · rw [if_pos q1]; rw [Int64.lt_iff_toInt_lt, own_c0] at q1
      exact own_hv ef rfl (by omega)
    · rw [if_neg q1]; rw [Int64.lt_iff_toInt_lt, own_c0] at q1
      unfold own_h; rw [if_pos (by rw [Int64.lt_iff_toInt_lt, ef]; omega)]
  · rw [if_neg q0]
    rw [Int64.lt_iff_toInt_lt, own_c0] at q0
    exact own_hv ef rfl (by omega)
theorem own_law2 {c r p : Int64} (h : Three c r p) : ¬ own_h (c * p) (c * p - 9223372036854775807) = 0 := by
  rw [own_hv (own_fm h) (own_fm h) (Int.le_refl _)]; decide
theorem own_law3 {c r p : Int64} (h : Three c r p) : own_h (c * p) (c * p - 9223372036854775807 - 1) = 0 := by
  obtain ⟨e, h1, h2⟩ := h.prod
  unfold own_h; rw [if_pos (by rw [Int64.lt_iff_toInt_lt, own_fm h, own_sub (own_fm h) own_c1 (by omega) (by omega)]; omega)]
theorem own_law4 {c r p : Int64} (h : Three c r p) : ¬ own_h (c * p) (c * p) = 0 := by
  obtain ⟨e, h1, h2⟩ := h.prod
  rw [own_hv (own_fm h) e (by omega)]; decide
theorem own_law5 {c r p : Int64} (h : Three c r p) : ¬ own_h (c * p) 0 = 0 := by
  obtain ⟨e, h1, h2⟩ := h.prod
  rw [own_hv (own_fm h) own_c0 (by omega)]; decide
theorem own_len {Z : State} {args : Array Value} {t : Term} {x : Addr} {c : Cell} {ty : FieldType} {n : Int32} (et : t.eval args Z none [] Z = some (.ref x)) (A : Arr Z Z.heap x c ty) (h : (Term.length t).eval args Z none [] Z = some (.int n)) : c.slots.size < 2 ^ 31 ∧ c.slots.size.toInt32 = n := by
  have ha := A.fin (Vm.Alike.refl _)
  have q := Jvm.Free.SBG.length_lt et ha h
  refine ⟨q, ?_⟩
  have := (len_f et ha q).symm.trans h
  exact Value.int.inj (Option.some.inj this)
theorem own_arr {Z : State} {args : Array Value} {t : Term} {a : Addr} {ty : FieldType} {z : Int32} (et : t.eval args Z none [] Z = some (.ref a)) (ha : (Cond.arrayOf t ty).before args Z = true) (hl : (Cond.eq (Term.length t) (Term.int z)).before args Z = true) (hz : ¬ z < 0) : ∃ f, Ia Z Z.heap a ty z f ∧ ∀ (j : Int32) (v : Value), ¬ j < 0 → (Term.elem t (Term.int j)).eval args Z none [] Z = some v → f j = v := by
  obtain ⟨cl, A⟩ := Arr.start et (Cond.before_iff.mp ha)
  have hlen := eqv_i (Term.int_eval z) (Cond.before_iff.mp hl)
  obtain ⟨q31, e⟩ := own_len et A hlen
  have S : cl.slots.size = z.toNatClampNeg := by rw [← e]; simp only [Int32.toNatClampNeg, len_toInt q31]; rfl
  refine ⟨fun j => (cl.slots[j.toNatClampNeg]?).getD .null, ⟨cl, A, S, hz, fun j h1 h2 => ?_⟩, fun j v hj hv => ?_⟩
  · have hj : j.toNatClampNeg < cl.slots.size := Nat.lt_of_not_le (fun u => inb_of S ⟨h1, h2⟩ (Or.inr u))
    show cl.slots[j.toNatClampNeg]? = some ((cl.slots[j.toNatClampNeg]?).getD .null)
    rw [Array.getElem?_eq_getElem hj]; rfl
  · have q := (elem_in hv et (Term.int_eval j) A.1).2
    show (cl.slots[j.toNatClampNeg]?).getD .null = v
    rw [q]; rfl
theorem own_obj {Z : State} {args : Array Value} {t : Term} {a : Addr} {v : Int32} {n : Int} (ea : t.eval args Z none [] Z = some (.ref a)) (hn : uv v = n) (hx : (Cond.exactly t "java/math/BigInteger").before args Z = true) (hs : (Cond.eq (Term.field t "java/math/BigInteger" "signum" "I") (Term.int (1 : Int32))).before args Z = true) (ha : (Cond.arrayOf (Term.field t "java/math/BigInteger" "mag" "[I") .int).before args Z = true) (hl : (Cond.eq (Term.length (Term.field t "java/math/BigInteger" "mag" "[I")) (Term.int (1 : Int32))).before args Z = true) (he : (Cond.eq (Term.elem (Term.field t "java/math/BigInteger" "mag" "[I") (Term.int (0 : Int32))) (Term.int v)).before args Z = true) : ∃ (m : Addr) (g : Nat → Int32), Exa Z Z.heap a "java/math/BigInteger" ∧ Fld Z Z.heap a "java/math/BigInteger" "signum" "I" (.int (1 : Int32)) ∧ Fld Z Z.heap a "java/math/BigInteger" "mag" "[I" (.ref m) ∧ Ia Z Z.heap m .int (Int32.ofNat 1) (intF g) ∧ uv (g 0) = n := by
  have es := eqv_i (Term.int_eval 1) (Cond.before_iff.mp hs)
  obtain ⟨m, em⟩ := arr_v (Cond.before_iff.mp ha)
  obtain ⟨f, A, E⟩ := own_arr em ha hl (by decide)
  have ev := E 0 _ (by decide) (eqv_i (Term.int_eval v) (Cond.before_iff.mp he))
  refine ⟨m, fun _ => v, Exa.start ea (Cond.before_iff.mp hx), Fld.start ((fld_at ea).symm.trans es), Fld.start ((fld_at ea).symm.trans em), A.congr (fun j h1 h2 => ?_), hn⟩
  have e0 : j = 0 := by
    apply Int32.toInt_inj.mp
    rw [Int32.lt_iff_toInt_lt] at h1 h2
    have z0 : (0 : Int32).toInt = 0 := rfl
    have z1 : (1 : Int32).toInt = 1 := rfl
    omega
  rw [e0]; exact ev
theorem own_el {Z : State} {args : Array Value} {T : Term} {pf : Int32 → Value} (E : ∀ (j : Int32) (v : Value), ¬ j < 0 → (Term.elem T (Term.int j)).eval args Z none [] Z = some v → pf j = v) {j : Int32} (hj : ¬ j < 0) {n : Int} (hn : uv j = n) (hx : (Cond.exactly (Term.elem T (Term.int j)) "java/math/BigInteger").before args Z = true) (hs : (Cond.eq (Term.field (Term.elem T (Term.int j)) "java/math/BigInteger" "signum" "I") (Term.int (1 : Int32))).before args Z = true) (ha : (Cond.arrayOf (Term.field (Term.elem T (Term.int j)) "java/math/BigInteger" "mag" "[I") .int).before args Z = true) (hl : (Cond.eq (Term.length (Term.field (Term.elem T (Term.int j)) "java/math/BigInteger" "mag" "[I")) (Term.int (1 : Int32))).before args Z = true) (he : (Cond.eq (Term.elem (Term.field (Term.elem T (Term.int j)) "java/math/BigInteger" "mag" "[I") (Term.int (0 : Int32))) (Term.int j)).before args Z = true) : ∃ (t m : Addr) (g : Nat → Int32), pf j = .ref t ∧ Exa Z Z.heap t "java/math/BigInteger" ∧ Fld Z Z.heap t "java/math/BigInteger" "signum" "I" (.int (1 : Int32)) ∧ Fld Z Z.heap t "java/math/BigInteger" "mag" "[I" (.ref m) ∧ Ia Z Z.heap m .int (Int32.ofNat 1) (intF g) ∧ uv (g 0) = n := by
  obtain ⟨t, et⟩ := exa_v (Cond.before_iff.mp hx)
  obtain ⟨m, g, r⟩ := own_obj et hn hx hs ha hl he
  exact ⟨t, m, g, E j _ hj et, r⟩

theorem rmX (l : Launch) (Z : State) (a0 : Array Value) (hw : Hw Z a0) (x y : Int64) (h : Heap) (n0 : Nat)  : Con l Z ⟨"java/lang/Math", "max", "(JJ)J"⟩ jdk_29_method_66_code 4 (some .long) ⟨0, 0, 0, 0⟩ #[.long x, .long y] h n0 (fun vr h' => vr = some (.long (own_max x y)) ∧ h' = h) := by
  refine Con.of pnX (fun m_ => efX m_ x y) (fun E K => ?_)
  refine K.lloadN dX_0 rfl ?_
  refine K.lloadN dX_1 rfl ?_
  refine K.lc_lt dX_2 dX_3 (fun hc1 => ?_) (fun hc1 => ?_)
  · refine K.lloadN dX_10 rfl ?_
    exact K.lreturn dX_11 (by decide) (by decide) ⟨by rw [own_m1 hc1], rfl⟩
  · refine K.lloadN dX_6 rfl ?_
    refine K.goto dX_7 ?_
    exact K.lreturn dX_11 (by decide) (by decide) ⟨by rw [own_m0 hc1], rfl⟩
theorem rmXI (l : Launch) (Z : State) (a0 : Array Value) (hw : Hw Z a0) (x y : Int32) (h : Heap) (n0 : Nat)  : Con l Z ⟨"java/lang/Math", "max", "(II)I"⟩ jdk_29_method_65_code 2 (some .int) ⟨0, 0, 0, 0⟩ #[.int x, .int y] h n0 (fun vr h' => vr = some (.int (own_xi x y)) ∧ h' = h) := by
  refine Con.of pnXI (fun m_ => efXI m_ x y) (fun E K => ?_)
  refine K.iloadN dXI_0 rfl ?_
  refine K.iloadN dXI_1 rfl ?_
  refine K.ic_lt dXI_2 (fun hc1 => ?_) (fun hc1 => ?_)
  · refine K.iloadN dXI_9 rfl ?_
    exact K.ireturn dXI_10 (Or.inl rfl) rfl (by decide) (by decide) ⟨by rw [own_xi, if_pos hc1], rfl⟩
  · refine K.iloadN dXI_5 rfl ?_
    refine K.goto dXI_6 ?_
    exact K.ireturn dXI_10 (Or.inl rfl) rfl (by decide) (by decide) ⟨by rw [own_xi, if_neg hc1], rfl⟩
theorem rmMN (l : Launch) (Z : State) (a0 : Array Value) (hw : Hw Z a0) (x y : Int32) (h : Heap) (n0 : Nat)  : Con l Z ⟨"java/lang/Math", "min", "(II)I"⟩ jdk_29_method_69_code 2 (some .int) ⟨0, 0, 0, 0⟩ #[.int x, .int y] h n0 (fun vr h' => vr = some (.int (own_ni x y)) ∧ h' = h) := by
  refine Con.of pnMN (fun m_ => efMN m_ x y) (fun E K => ?_)
  refine K.iloadN dMN_0 rfl ?_
  refine K.iloadN dMN_1 rfl ?_
  refine K.ic_gt dMN_2 (fun hc1 => ?_) (fun hc1 => ?_)
  · refine K.iloadN dMN_9 rfl ?_
    exact K.ireturn dMN_10 (Or.inl rfl) rfl (by decide) (by decide) ⟨by rw [own_ni, if_pos hc1], rfl⟩
  · refine K.iloadN dMN_5 rfl ?_
    refine K.goto dMN_6 ?_
    exact K.ireturn dMN_10 (Or.inl rfl) rfl (by decide) (by decide) ⟨by rw [own_ni, if_neg hc1], rfl⟩
theorem rmL (l : Launch) (Z : State) (a0 : Array Value) (hw : Hw Z a0) (a b : Addr) (v : Int64) (h : Heap) (n0 : Nat) (P0 : ¬ v < 1) : Con l Z ⟨"com/example/entry_by_measure/entrybymeasure/util/Bounds", "atLeastOne", "(Ljava/lang/String;JLjava/lang/String;)J"⟩ prog_58_method_2_code 4 (some .long) ⟨0, 0, 0, 0⟩ #[.ref a, .long v, .ref b] h n0 (fun vr h' => vr = some (.long v) ∧ h' = h) := by
  refine Con.of pnL (fun m_ => efL m_ a v b) (fun E K => ?_)
  refine K.lloadN dL_0 rfl ?_
  refine K.lconst (1 : Int64) dL_1 rfl ?_
  refine K.lc_ge dL_2 dL_3 (fun u => absurd u P0) (fun _ => ?_)
  refine K.lloadN dL_22 rfl ?_
  exact K.lreturn dL_23 (by decide) (by decide) ⟨rfl, rfl⟩
theorem rmBI (l : Launch) (Z : State) (a0 : Array Value) (hw : Hw Z a0) (a : Addr) (c r p : Int64) (h : Heap) (n0 : Nat) (P0 : Exa Z h a "com/example/entry_by_measure/entrybymeasure/model/BurstRateLimit") (P1 : Fld Z h a "com/example/entry_by_measure/entrybymeasure/model/BurstRateLimit" "capacity" "J" (.long 0)) (P2 : Fld Z h a "com/example/entry_by_measure/entrybymeasure/model/BurstRateLimit" "refill" "J" (.long 0)) (P3 : Fld Z h a "com/example/entry_by_measure/entrybymeasure/model/BurstRateLimit" "periodMillis" "J" (.long 0)) (P4 : n0 ≤ a) (P5 : Three c r p) : Con l Z ⟨"com/example/entry_by_measure/entrybymeasure/model/BurstRateLimit", "<init>", "(JJJ)V"⟩ prog_13_method_1_code 7 none ⟨1, 12, 152, 16⟩ #[.ref a, .long c, .long r, .long p] h n0 (fun vr h' => vr = none ∧ (Keep h h' [a] ∧ Exa Z h' a "com/example/entry_by_measure/entrybymeasure/model/BurstRateLimit" ∧ Fld Z h' a "com/example/entry_by_measure/entrybymeasure/model/BurstRateLimit" "capacity" "J" (.long c) ∧ Fld Z h' a "com/example/entry_by_measure/entrybymeasure/model/BurstRateLimit" "refill" "J" (.long r) ∧ Fld Z h' a "com/example/entry_by_measure/entrybymeasure/model/BurstRateLimit" "periodMillis" "J" (.long p))) := by
  refine Con.of pnBI (fun m_ => efBI m_ a c r p) (fun E K => ?_)
  have K1 : Keep h h [a] := Keep.refl _ _
  have hT := P5
  refine K.aloadN dBI_0 rfl rfl ?_
  refine K.initO 0 dBI_1 (wd14 hw) (wd15 hw) (wd16 hw) rfl (by decide) (Nat.le_of_eq rfl) (by decide) ?_
  refine K.aloadN dBI_4 rfl rfl ?_
  refine K.ldcS 32 2 36 dBI_5 (wd17 hw) (fun d hd => hw d (own_strw d hd)) (by decide) (by decide) rfl rfl (by decide) (by decide) (fun a2 h3 X4 => ?_)
  have K5 := K1.ext X4
  have E6 := P0.ext X4
  have F7 := P1.ext X4
  have F8 := P2.ext X4
  have F9 := P3.ext X4
  refine K.lloadN dBI_7 rfl ?_
  refine K.ldcS 20 4 60 dBI_8 (wd25 hw) (fun d hd => hw d (own_strw d hd)) (by decide) (by decide) rfl rfl (by decide) (by decide) (fun a10 h11 X12 => ?_)
  have K13 := K5.ext X12
  have E14 := E6.ext X12
  have F15 := F7.ext X12
  have F16 := F8.ext X12
  have F17 := F9.ext X12
  refine K.callS [.ref a2, .long c, .ref a10] [.ref a] 1 4 60 dBI_10 (wd26 hw) (wd27 hw) (wd28 hw) (wd29 hw) (by decide) (rmL l Z a0 hw a2 a10 c h11 n0 (Three.one (hT.2.2.1))) rfl (lenOf pd_1 rfl) rfl (Nat.le_of_eq rfl) (by decide) (by decide) rfl rfl (by decide) (by decide) (goP ?_)
  refine K.putF dBI_13 (wd30 hw) F15 E14 (Or.inr ⟨(wd31 hw), rfl, rfl⟩) (wd9 hw) (ty := .long) (by decide) rfl rfl P4 (fun h18 W19 => ?_)
  have K20 := K13.wr W19 (Or.inl (mg 0 rfl))
  have E21 := E14.wr W19
  have F22 := F15.same W19
  have F23 := F16.other W19 (Or.inr (sn0 hw))
  have F24 := F17.other W19 (Or.inr (sn1 hw))
  refine K.aloadN dBI_16 rfl rfl ?_
  refine K.ldcS 24 6 88 dBI_17 (wd32 hw) (fun d hd => hw d (own_strw d hd)) (by decide) (by decide) rfl rfl (by decide) (by decide) (fun a25 h26 X27 => ?_)
  have K28 := K20.ext X27
  have E29 := E21.ext X27
  have F30 := F22.ext X27
  have F31 := F23.ext X27
  have F32 := F24.ext X27
  refine K.lloadN dBI_19 rfl ?_
  refine K.ldcS 20 8 112 dBI_20 (wd25 hw) (fun d hd => hw d (own_strw d hd)) (by decide) (by decide) rfl rfl (by decide) (by decide) (fun a33 h34 X35 => ?_)
  have K36 := K28.ext X35
  have E37 := E29.ext X35
  have F38 := F30.ext X35
  have F39 := F31.ext X35
  have F40 := F32.ext X35
  refine K.callS [.ref a25, .long r, .ref a33] [.ref a] 1 8 112 dBI_22 (wd26 hw) (wd27 hw) (wd28 hw) (wd29 hw) (by decide) (rmL l Z a0 hw a25 a33 r h34 n0 (Three.one (hT.2.1))) rfl (lenOf pd_1 rfl) rfl (Nat.le_of_eq rfl) (by decide) (by decide) rfl rfl (by decide) (by decide) (goP ?_)
  refine K.putF dBI_25 (wd33 hw) F39 E37 (Or.inr ⟨(wd34 hw), rfl, rfl⟩) (wd9 hw) (ty := .long) (by decide) rfl rfl P4 (fun h41 W42 => ?_)
  have K43 := K36.wr W42 (Or.inl (mg 0 rfl))
  have E44 := E37.wr W42
  have F45 := F38.other W42 (Or.inr (sn2 hw))
  have F46 := F39.same W42
  have F47 := F40.other W42 (Or.inr (sn3 hw))
  refine K.aloadN dBI_28 rfl rfl ?_
  refine K.ldcS 24 10 140 dBI_29 (wd35 hw) (fun d hd => hw d (own_strw d hd)) (by decide) (by decide) rfl rfl (by decide) (by decide) (fun a48 h49 X50 => ?_)
  have K51 := K43.ext X50
  have E52 := E44.ext X50
  have F53 := F45.ext X50
  have F54 := F46.ext X50
  have F55 := F47.ext X50
  refine K.lload dBI_31 rfl ?_
  refine K.ldcS 8 12 152 dBI_33 (wd36 hw) (fun d hd => hw d (own_strw d hd)) (by decide) (by decide) rfl rfl (by decide) (by decide) (fun a56 h57 X58 => ?_)
  have K59 := K51.ext X58
  have E60 := E52.ext X58
  have F61 := F53.ext X58
  have F62 := F54.ext X58
  have F63 := F55.ext X58
  refine K.callS [.ref a48, .long p, .ref a56] [.ref a] 1 12 152 dBI_35 (wd26 hw) (wd27 hw) (wd28 hw) (wd29 hw) (by decide) (rmL l Z a0 hw a48 a56 p h57 n0 (Three.one (hT.1))) rfl (lenOf pd_1 rfl) rfl (Nat.le_of_eq rfl) (by decide) (by decide) rfl rfl (by decide) (by decide) (goP ?_)
  refine K.putF dBI_38 (wd37 hw) F63 E60 (Or.inr ⟨(wd38 hw), rfl, rfl⟩) (wd9 hw) (ty := .long) (by decide) rfl rfl P4 (fun h64 W65 => ?_)
  have K66 := K59.wr W65 (Or.inl (mg 0 rfl))
  have E67 := E60.wr W65
  have F68 := F61.other W65 (Or.inr (sn4 hw))
  have F69 := F62.other W65 (Or.inr (sn5 hw))
  have F70 := F63.same W65
  refine K.lloadN dBI_41 rfl ?_
  refine K.ldc2J dBI_42 (wd39 hw) ?_
  refine K.lload dBI_45 rfl ?_
  refine K.ldiv dBI_47 (own_ne P5.1) ?_
  refine K.lc_le dBI_48 dBI_49 (fun u => absurd u P5.le) (fun _ => ?_)
  exact K.ret dBI_68 (by decide) (by decide) ⟨rfl, K66, E67, F68, F69, F70⟩
theorem rmGC (l : Launch) (Z : State) (a0 : Array Value) (hw : Hw Z a0) (a : Addr) (v : Int64) (h : Heap) (n0 : Nat) (P0 : Fld Z h a "com/example/entry_by_measure/entrybymeasure/model/BurstRateLimit" "capacity" "J" (.long v)) : Con l Z ⟨"com/example/entry_by_measure/entrybymeasure/model/BurstRateLimit", "capacity", "()J"⟩ prog_13_method_2_code 1 (some .long) ⟨0, 0, 0, 0⟩ #[.ref a] h n0 (fun vr h' => vr = some (.long v) ∧ h' = h) := by
  refine Con.of pnGC (fun m_ => efGC m_ a) (fun E K => ?_)
  refine K.aloadN dGC_0 rfl rfl ?_
  refine K.getF dGC_1 (wd30 hw) P0 ?_
  exact K.lreturn dGC_4 (by decide) (by decide) ⟨rfl, rfl⟩
theorem rmGR (l : Launch) (Z : State) (a0 : Array Value) (hw : Hw Z a0) (a : Addr) (v : Int64) (h : Heap) (n0 : Nat) (P0 : Fld Z h a "com/example/entry_by_measure/entrybymeasure/model/BurstRateLimit" "refill" "J" (.long v)) : Con l Z ⟨"com/example/entry_by_measure/entrybymeasure/model/BurstRateLimit", "refill", "()J"⟩ prog_13_method_3_code 1 (some .long) ⟨0, 0, 0, 0⟩ #[.ref a] h n0 (fun vr h' => vr = some (.long v) ∧ h' = h) := by
  refine Con.of pnGR (fun m_ => efGR m_ a) (fun E K => ?_)
  refine K.aloadN dGR_0 rfl rfl ?_
  refine K.getF dGR_1 (wd33 hw) P0 ?_
  exact K.lreturn dGR_4 (by decide) (by decide) ⟨rfl, rfl⟩
theorem rmGP (l : Launch) (Z : State) (a0 : Array Value) (hw : Hw Z a0) (a : Addr) (v : Int64) (h : Heap) (n0 : Nat) (P0 : Fld Z h a "com/example/entry_by_measure/entrybymeasure/model/BurstRateLimit" "periodMillis" "J" (.long v)) : Con l Z ⟨"com/example/entry_by_measure/entrybymeasure/model/BurstRateLimit", "periodMillis", "()J"⟩ prog_13_method_4_code 1 (some .long) ⟨0, 0, 0, 0⟩ #[.ref a] h n0 (fun vr h' => vr = some (.long v) ∧ h' = h) := by
  refine Con.of pnGP (fun m_ => efGP m_ a) (fun E K => ?_)
  refine K.aloadN dGP_0 rfl rfl ?_
  refine K.getF dGP_1 (wd37 hw) P0 ?_
  exact K.lreturn dGP_4 (by decide) (by decide) ⟨rfl, rfl⟩
theorem rmNI (l : Launch) (Z : State) (a0 : Array Value) (hw : Hw Z a0) (x : Int32) (h : Heap) (n0 : Nat)  : Con l Z ⟨"java/lang/Integer", "numberOfLeadingZeros", "(I)I"⟩ jdk_33_method_47_code 2 (some .int) ⟨0, 0, 0, 0⟩ #[.int x] h n0 (fun vr h' => ∃ z, vr = some (.int z) ∧ (h' = h ∧ ∃ k : Nat, z = Int32.ofNat k ∧ NZ (uv x) k)) := by
  refine Con.of pnNI (fun m_ => efNI m_ x) (fun E K => ?_)
  refine K.iloadN dNI_0 rfl ?_
  refine K.if_gt dNI_1 (fun hc1 => ?_) (fun hc1 => ?_)
  · have S0 := St.zero hc1
    refine K.bipush (31 : Int32) dNI_15 rfl ?_
    refine K.istoreN #[oI x, oI (31 : Int32)] dNI_17 rfl ?_
    refine K.iloadN dNI_18 rfl ?_
    refine K.ldcWI dNI_19 (wd85 hw) ?_
    refine cut (P := ∀ x1 n1 : Int32, St x x1 n1 65536 16 → Wk E h 0 0 33 #[oI x1, oI n1] []) (fun J2 => ?_) ?_
    · refine K.ic_lt dNI_22 (fun hc3 => ?_) (fun hc3 => ?_)
      · exact J2 _ _ (S0.stay hc3 rfl (by decide))
      · refine K.iinc ((31 : Int32) + (-16)) #[oI x, oI ((31 : Int32) + (-16))] dNI_25 rfl rfl rfl ?_
        refine K.iloadN dNI_28 rfl ?_
        refine K.bipush (16 : Int32) dNI_29 rfl ?_
        refine K.iushr dNI_31 ?_
        refine K.istoreN #[oI ((x.toUInt32 >>> ((16 : Int32) &&& 31).toUInt32).toInt32), oI ((31 : Int32) + (-16))] dNI_32 rfl ?_
        exact J2 _ _ (S0.step (k := 16) hc3 rfl (by decide) (by decide) rfl (by decide) (by decide) (by decide))
    intro x1 n1 S1
    refine K.iloadN dNI_33 rfl ?_
    refine K.sipush (256 : Int32) dNI_34 rfl ?_
    refine cut (P := ∀ x2 n2 : Int32, St x x2 n2 256 24 → Wk E h 0 0 48 #[oI x2, oI n2] []) (fun J4 => ?_) ?_
    · refine K.ic_lt dNI_37 (fun hc5 => ?_) (fun hc5 => ?_)
      · exact J4 _ _ (S1.stay hc5 rfl (by decide))
      · refine K.iinc (n1 + (-8)) #[oI x1, oI (n1 + (-8))] dNI_40 rfl rfl rfl ?_
        refine K.iloadN dNI_43 rfl ?_
        refine K.bipush (8 : Int32) dNI_44 rfl ?_
        refine K.iushr dNI_46 ?_
        refine K.istoreN #[oI ((x1.toUInt32 >>> ((8 : Int32) &&& 31).toUInt32).toInt32), oI (n1 + (-8))] dNI_47 rfl ?_
        exact J4 _ _ (S1.step (k := 8) hc5 rfl (by decide) (by decide) rfl (by decide) (by decide) (by decide))
    intro x2 n2 S2
    refine K.iloadN dNI_48 rfl ?_
    refine K.bipush (16 : Int32) dNI_49 rfl ?_
    refine cut (P := ∀ x3 n3 : Int32, St x x3 n3 16 28 → Wk E h 0 0 61 #[oI x3, oI n3] []) (fun J6 => ?_) ?_
    · refine K.ic_lt dNI_51 (fun hc7 => ?_) (fun hc7 => ?_)
      · exact J6 _ _ (S2.stay hc7 rfl (by decide))
      · refine K.iinc (n2 + (-4)) #[oI x2, oI (n2 + (-4))] dNI_54 rfl rfl rfl ?_
        refine K.iloadN dNI_57 rfl ?_
        refine K.iconst (4 : Int32) dNI_58 rfl ?_
        refine K.iushr dNI_59 ?_
        refine K.istoreN #[oI ((x2.toUInt32 >>> ((4 : Int32) &&& 31).toUInt32).toInt32), oI (n2 + (-4))] dNI_60 rfl ?_
        exact J6 _ _ (S2.step (k := 4) hc7 rfl (by decide) (by decide) rfl (by decide) (by decide) (by decide))
    intro x3 n3 S3
    refine K.iloadN dNI_61 rfl ?_
    refine K.iconst (4 : Int32) dNI_62 rfl ?_
    refine cut (P := ∀ x4 n4 : Int32, St x x4 n4 4 30 → Wk E h 0 0 73 #[oI x4, oI n4] []) (fun J8 => ?_) ?_
    · refine K.ic_lt dNI_63 (fun hc9 => ?_) (fun hc9 => ?_)
      · exact J8 _ _ (S3.stay hc9 rfl (by decide))
      · refine K.iinc (n3 + (-2)) #[oI x3, oI (n3 + (-2))] dNI_66 rfl rfl rfl ?_
        refine K.iloadN dNI_69 rfl ?_
        refine K.iconst (2 : Int32) dNI_70 rfl ?_
        refine K.iushr dNI_71 ?_
        refine K.istoreN #[oI ((x3.toUInt32 >>> ((2 : Int32) &&& 31).toUInt32).toInt32), oI (n3 + (-2))] dNI_72 rfl ?_
        exact J8 _ _ (S3.step (k := 2) hc9 rfl (by decide) (by decide) rfl (by decide) (by decide) (by decide))
    intro x4 n4 S4
    refine K.iloadN dNI_73 rfl ?_
    refine K.iloadN dNI_74 rfl ?_
    refine K.iconst (1 : Int32) dNI_75 rfl ?_
    refine K.iushr dNI_76 ?_
    refine K.isub dNI_77 ?_
    exact K.ireturn dNI_78 (Or.inl rfl) rfl (by decide) (by decide) ⟨_, rfl, rfl, St.nz hc1 S4⟩
  · refine K.iloadN dNI_4 rfl ?_
    refine K.if_ne dNI_5 (fun hc10 => ?_) (fun hc10 => ?_)
    · refine K.bipush (32 : Int32) dNI_8 rfl ?_
      refine K.goto dNI_10 ?_
      exact K.ireturn dNI_14 (Or.inl rfl) rfl (by decide) (by decide) ⟨_, rfl, rfl, 32, rfl, by rw [hc10]; exact ⟨by decide, Or.inl ⟨rfl, rfl⟩⟩⟩
    · refine K.iconst (0 : Int32) dNI_13 rfl ?_
      exact K.ireturn dNI_14 (Or.inl rfl) rfl (by decide) (by decide) ⟨_, rfl, rfl, 0, rfl, own_nz0 hc1 hc10⟩
theorem rmDW (l : Launch) (Z : State) (a0 : Array Value) (hw : Hw Z a0) (n : Int64) (d : Int32) (h : Heap) (n0 : Nat) (hd : 2147483648 ≤ uv d) (hn : uw n < uv d * 4294967296) : Con l Z ⟨"java/math/MutableBigInteger", "divWord", "(JI)J"⟩ jdk_2101_method_70_code 9 (some .long) ⟨0, 0, 0, 0⟩ #[.long n, .int d] h n0 (fun vr h' => ∃ z, vr = some (.long z) ∧ (h' = h ∧ uw z = (uw n % uv d) * 4294967296 + uw n / uv d)) := by
  refine Con.of pnDW (fun m_ => efDW m_ n d) (fun E K => ?_)
  have hD := m32 d
  have rD := uv_rng d
  have rN := uw_rng n
  obtain ⟨D, eD⟩ : ∃ D : Int64, D = d.toInt64 &&& (4294967295 : Int64) := ⟨_, rfl⟩
  refine K.iloadN dDW_0 rfl ?_
  refine K.i2l dDW_1 ?_
  refine K.ldc2J dDW_2 (wd187 hw) ?_
  refine K.land dDW_5 ?_
  rw [← eD]
  rw [← eD] at hD
  refine K.lstoreN #[oJ n, oT, oI d, oJ D, oT, oU, oU, oU, oU] dDW_6 rfl ?_
  refine K.lloadN dDW_7 rfl ?_
  refine K.lconst (1 : Int64) dDW_8 rfl ?_
  refine K.lc_ne dDW_9 dDW_10 (fun u => absurd u (own_dne hD hd)) (fun _ => ?_)
  refine K.lloadN dDW_34 rfl ?_
  refine K.iconst (1 : Int32) dDW_35 rfl ?_
  refine K.lushr dDW_36 ?_
  refine K.lloadN dDW_37 rfl ?_
  refine K.iconst (1 : Int32) dDW_38 rfl ?_
  refine K.lushr dDW_39 ?_
  refine K.ldiv dDW_40 (own_dnz hD hd rD.2) ?_
  refine K.lstore #[oJ n, oT, oI d, oJ D, oT, oU, oU, oJ (((n.toUInt64 >>> ((1 : Int32) &&& 63).toInt64.toUInt64).toInt64) / ((D.toUInt64 >>> ((1 : Int32) &&& 63).toInt64.toUInt64).toInt64)), oT] dDW_41 rfl ?_
  refine K.lloadN dDW_43 rfl ?_
  refine K.lload dDW_44 rfl ?_
  refine K.lloadN dDW_46 rfl ?_
  refine K.lmul dDW_47 ?_
  refine K.lsub dDW_48 ?_
  refine K.lstore #[oJ n, oT, oI d, oJ D, oT, oJ (n - ((((n.toUInt64 >>> ((1 : Int32) &&& 63).toInt64.toUInt64).toInt64) / ((D.toUInt64 >>> ((1 : Int32) &&& 63).toInt64.toUInt64).toInt64)) * D)), oT, oJ (((n.toUInt64 >>> ((1 : Int32) &&& 63).toInt64.toUInt64).toInt64) / ((D.toUInt64 >>> ((1 : Int32) &&& 63).toInt64.toUInt64).toInt64)), oT] dDW_49 rfl ?_
  obtain ⟨hq0, hq1, hr0, hr1, hqr⟩ := own_guess n hD hd rD.2
  have L2 : ∀ (f : Nat) (q r : Int64), 0 ≤ r.toInt → r.toInt < (f : Int) * 2147483648 → r.toInt < 4294967296 → q.toInt ≤ 8589934592 + 4 - f → -8589934592 ≤ q.toInt → q.toInt * D.toInt + r.toInt = uw n → Wk E h 0 0 73 #[oJ n, oT, oI d, oJ D, oT, oJ r, oT, oJ q, oT] [] := by
    intro f
    induction f with
    | zero =>
      intro q r h0 h1 h2 hq hq' he
      exact absurd h1 (by omega)
    | succ f ih =>
      intro q r h0 h1 h2 hq hq' he
      refine K.lload dDW_73 rfl ?_
      refine K.lloadN dDW_75 rfl ?_
      refine K.lc_lt dDW_76 dDW_77 (fun hc1 => ?_) (fun hc1 => ?_)
      · refine K.lload dDW_95 rfl ?_
        refine K.bipush (32 : Int32) dDW_97 rfl ?_
        refine K.lshl dDW_99 ?_
        refine K.lload dDW_100 rfl ?_
        refine K.ldc2J dDW_102 (wd187 hw) ?_
        refine K.land dDW_105 ?_
        refine K.lor dDW_106 ?_
        exact K.lreturn dDW_107 (by decide) (by decide) ⟨_, rfl, rfl, own_dwend hD hd rD.2 rN.1 hn he h0 hc1⟩
      · obtain ⟨a1, a2, a3, a4⟩ := own_dw2 hD hd rD.2 hc1 h2 (by omega) hq' he
        refine K.lload dDW_80 rfl ?_
        refine K.lloadN dDW_82 rfl ?_
        refine K.lsub dDW_83 ?_
        refine K.lstore #[oJ n, oT, oI d, oJ D, oT, oJ (r - D), oT, oJ q, oT] dDW_84 rfl ?_
        refine K.lload dDW_86 rfl ?_
        refine K.lconst (1 : Int64) dDW_88 rfl ?_
        refine K.ladd dDW_89 ?_
        refine K.lstore #[oJ n, oT, oI d, oJ D, oT, oJ (r - D), oT, oJ (q + (1 : Int64)), oT] dDW_90 rfl ?_
        refine K.goto dDW_92 ?_
        exact ih _ _ (by omega) (by omega) (by omega) (by omega) (by omega) a3
  have L1 : ∀ (f : Nat) (q r : Int64), f ≤ 5 → -((f : Int) * 2147483648) ≤ r.toInt → r.toInt < 4294967296 → q.toInt ≤ 8589934592 → (f : Int) - 8 ≤ q.toInt → q.toInt * D.toInt + r.toInt = uw n → Wk E h 0 0 51 #[oJ n, oT, oI d, oJ D, oT, oJ r, oT, oJ q, oT] [] := by
    intro f
    induction f with
    | zero =>
      intro q r hf h1 h2 hq hq' he
      refine K.lload dDW_51 rfl ?_
      refine K.lconst (0 : Int64) dDW_53 rfl ?_
      refine K.lc_ge dDW_54 dDW_55 (fun u => absurd u (own_nlt0 (by omega))) (fun _ => ?_)
      exact L2 3 q r (by omega) (by omega) h2 (by omega) (by omega) he
    | succ f ih =>
      intro q r hf h1 h2 hq hq' he
      refine K.lload dDW_51 rfl ?_
      refine K.lconst (0 : Int64) dDW_53 rfl ?_
      refine K.lc_ge dDW_54 dDW_55 (fun hc2 => ?_) (fun hc2 => ?_)
      · obtain ⟨a1, a2, a3, a4⟩ := own_dw1 hD hd rD.2 hc2 (by omega) hq (by omega) he
        refine K.lload dDW_58 rfl ?_
        refine K.lloadN dDW_60 rfl ?_
        refine K.ladd dDW_61 ?_
        refine K.lstore #[oJ n, oT, oI d, oJ D, oT, oJ (r + D), oT, oJ q, oT] dDW_62 rfl ?_
        refine K.lload dDW_64 rfl ?_
        refine K.lconst (1 : Int64) dDW_66 rfl ?_
        refine K.lsub dDW_67 ?_
        refine K.lstore #[oJ n, oT, oI d, oJ D, oT, oJ (r + D), oT, oJ (q - (1 : Int64)), oT] dDW_68 rfl ?_
        refine K.goto dDW_70 ?_
        exact ih _ _ (by omega) (by omega) (by omega) (by omega) (by omega) a3
      · have hr := own_nneg hc2
        exact L2 3 q r hr (by omega) h2 (by omega) (by omega) he
  exact L1 5 (QQ n D) (n - QQ n D * D) (by omega) (by omega) (by omega) (by omega) (by omega) hqr
theorem rmMH (l : Launch) (Z : State) (a0 : Array Value) (hw : Hw Z a0) (x y : Int64) (h : Heap) (n0 : Nat)  : Con l Z ⟨"java/lang/Math", "multiplyHigh", "(JJ)J"⟩ jdk_29_method_45_code 20 (some .long) ⟨0, 0, 0, 0⟩ #[.long x, .long y] h n0 (fun vr h' => ∃ z, vr = some (.long z) ∧ (h' = h ∧ True)) := by
  refine Con.of pnMH (fun m_ => efMH m_ x y) (fun E K => ?_)
  refine K.lloadN dMH_0 rfl ?_
  refine K.bipush (32 : Int32) dMH_1 rfl ?_
  refine K.lshr dMH_3 ?_
  refine K.lstore #[oJ x, oT, oJ y, oT, oJ (x >>> ((32 : Int32) &&& 63).toInt64), oT, oU, oU, oU, oU, oU, oU, oU, oU, oU, oU, oU, oU, oU, oU] dMH_4 rfl ?_
  refine K.lloadN dMH_6 rfl ?_
  refine K.ldc2J dMH_7 (wd296 hw) ?_
  refine K.land dMH_10 ?_
  refine K.lstore #[oJ x, oT, oJ y, oT, oJ (x >>> ((32 : Int32) &&& 63).toInt64), oT, oJ (x &&& (4294967295 : Int64)), oT, oU, oU, oU, oU, oU, oU, oU, oU, oU, oU, oU, oU] dMH_11 rfl ?_
  refine K.lloadN dMH_13 rfl ?_
  refine K.bipush (32 : Int32) dMH_14 rfl ?_
  refine K.lshr dMH_16 ?_
  refine K.lstore #[oJ x, oT, oJ y, oT, oJ (x >>> ((32 : Int32) &&& 63).toInt64), oT, oJ (x &&& (4294967295 : Int64)), oT, oJ (y >>> ((32 : Int32) &&& 63).toInt64), oT, oU, oU, oU, oU, oU, oU, oU, oU, oU, oU] dMH_17 rfl ?_
  refine K.lloadN dMH_19 rfl ?_
  refine K.ldc2J dMH_20 (wd296 hw) ?_
  refine K.land dMH_23 ?_
  refine K.lstore #[oJ x, oT, oJ y, oT, oJ (x >>> ((32 : Int32) &&& 63).toInt64), oT, oJ (x &&& (4294967295 : Int64)), oT, oJ (y >>> ((32 : Int32) &&& 63).toInt64), oT, oJ (y &&& (4294967295 : Int64)), oT, oU, oU, oU, oU, oU, oU, oU, oU] dMH_24 rfl ?_
  refine K.lload dMH_26 rfl ?_
  refine K.lload dMH_28 rfl ?_
  refine K.lmul dMH_30 ?_
  refine K.lstore #[oJ x, oT, oJ y, oT, oJ (x >>> ((32 : Int32) &&& 63).toInt64), oT, oJ (x &&& (4294967295 : Int64)), oT, oJ (y >>> ((32 : Int32) &&& 63).toInt64), oT, oJ (y &&& (4294967295 : Int64)), oT, oJ ((x &&& (4294967295 : Int64)) * (y &&& (4294967295 : Int64))), oT, oU, oU, oU, oU, oU, oU] dMH_31 rfl ?_
  refine K.lload dMH_33 rfl ?_
  refine K.lload dMH_35 rfl ?_
  refine K.lmul dMH_37 ?_
  refine K.lload dMH_38 rfl ?_
  refine K.bipush (32 : Int32) dMH_40 rfl ?_
  refine K.lushr dMH_42 ?_
  refine K.ladd dMH_43 ?_
  refine K.lstore #[oJ x, oT, oJ y, oT, oJ (x >>> ((32 : Int32) &&& 63).toInt64), oT, oJ (x &&& (4294967295 : Int64)), oT, oJ (y >>> ((32 : Int32) &&& 63).toInt64), oT, oJ (y &&& (4294967295 : Int64)), oT, oJ ((x &&& (4294967295 : Int64)) * (y &&& (4294967295 : Int64))), oT, oJ (((x >>> ((32 : Int32) &&& 63).toInt64) * (y &&& (4294967295 : Int64))) + ((((x &&& (4294967295 : Int64)) * (y &&& (4294967295 : Int64))).toUInt64 >>> ((32 : Int32) &&& 63).toInt64.toUInt64).toInt64)), oT, oU, oU, oU, oU] dMH_44 rfl ?_
  refine K.lload dMH_46 rfl ?_
  refine K.ldc2J dMH_48 (wd296 hw) ?_
  refine K.land dMH_51 ?_
  refine K.lstore #[oJ x, oT, oJ y, oT, oJ (x >>> ((32 : Int32) &&& 63).toInt64), oT, oJ (x &&& (4294967295 : Int64)), oT, oJ (y >>> ((32 : Int32) &&& 63).toInt64), oT, oJ (y &&& (4294967295 : Int64)), oT, oJ ((x &&& (4294967295 : Int64)) * (y &&& (4294967295 : Int64))), oT, oJ (((x >>> ((32 : Int32) &&& 63).toInt64) * (y &&& (4294967295 : Int64))) + ((((x &&& (4294967295 : Int64)) * (y &&& (4294967295 : Int64))).toUInt64 >>> ((32 : Int32) &&& 63).toInt64.toUInt64).toInt64)), oT, oJ ((((x >>> ((32 : Int32) &&& 63).toInt64) * (y &&& (4294967295 : Int64))) + ((((x &&& (4294967295 : Int64)) * (y &&& (4294967295 : Int64))).toUInt64 >>> ((32 : Int32) &&& 63).toInt64.toUInt64).toInt64)) &&& (4294967295 : Int64)), oT, oU, oU] dMH_52 rfl ?_
  refine K.lload dMH_54 rfl ?_
  refine K.bipush (32 : Int32) dMH_56 rfl ?_
  refine K.lshr dMH_58 ?_
  refine K.lstore #[oJ x, oT, oJ y, oT, oJ (x >>> ((32 : Int32) &&& 63).toInt64), oT, oJ (x &&& (4294967295 : Int64)), oT, oJ (y >>> ((32 : Int32) &&& 63).toInt64), oT, oJ (y &&& (4294967295 : Int64)), oT, oJ ((x &&& (4294967295 : Int64)) * (y &&& (4294967295 : Int64))), oT, oJ (((x >>> ((32 : Int32) &&& 63).toInt64) * (y &&& (4294967295 : Int64))) + ((((x &&& (4294967295 : Int64)) * (y &&& (4294967295 : Int64))).toUInt64 >>> ((32 : Int32) &&& 63).toInt64.toUInt64).toInt64)), oT, oJ ((((x >>> ((32 : Int32) &&& 63).toInt64) * (y &&& (4294967295 : Int64))) + ((((x &&& (4294967295 : Int64)) * (y &&& (4294967295 : Int64))).toUInt64 >>> ((32 : Int32) &&& 63).toInt64.toUInt64).toInt64)) &&& (4294967295 : Int64)), oT, oJ ((((x >>> ((32 : Int32) &&& 63).toInt64) * (y &&& (4294967295 : Int64))) + ((((x &&& (4294967295 : Int64)) * (y &&& (4294967295 : Int64))).toUInt64 >>> ((32 : Int32) &&& 63).toInt64.toUInt64).toInt64)) >>> ((32 : Int32) &&& 63).toInt64), oT] dMH_59 rfl ?_
  refine K.lload dMH_61 rfl ?_
  refine K.lload dMH_63 rfl ?_
  refine K.lload dMH_65 rfl ?_
  refine K.lmul dMH_67 ?_
  refine K.ladd dMH_68 ?_
  refine K.lstore #[oJ x, oT, oJ y, oT, oJ (x >>> ((32 : Int32) &&& 63).toInt64), oT, oJ (x &&& (4294967295 : Int64)), oT, oJ (y >>> ((32 : Int32) &&& 63).toInt64), oT, oJ (y &&& (4294967295 : Int64)), oT, oJ ((x &&& (4294967295 : Int64)) * (y &&& (4294967295 : Int64))), oT, oJ (((x >>> ((32 : Int32) &&& 63).toInt64) * (y &&& (4294967295 : Int64))) + ((((x &&& (4294967295 : Int64)) * (y &&& (4294967295 : Int64))).toUInt64 >>> ((32 : Int32) &&& 63).toInt64.toUInt64).toInt64)), oT, oJ (((((x >>> ((32 : Int32) &&& 63).toInt64) * (y &&& (4294967295 : Int64))) + ((((x &&& (4294967295 : Int64)) * (y &&& (4294967295 : Int64))).toUInt64 >>> ((32 : Int32) &&& 63).toInt64.toUInt64).toInt64)) &&& (4294967295 : Int64)) + ((x &&& (4294967295 : Int64)) * (y >>> ((32 : Int32) &&& 63).toInt64))), oT, oJ ((((x >>> ((32 : Int32) &&& 63).toInt64) * (y &&& (4294967295 : Int64))) + ((((x &&& (4294967295 : Int64)) * (y &&& (4294967295 : Int64))).toUInt64 >>> ((32 : Int32) &&& 63).toInt64.toUInt64).toInt64)) >>> ((32 : Int32) &&& 63).toInt64), oT] dMH_69 rfl ?_
  refine K.lload dMH_71 rfl ?_
  refine K.lload dMH_73 rfl ?_
  refine K.lmul dMH_75 ?_
  refine K.lload dMH_76 rfl ?_
  refine K.ladd dMH_78 ?_
  refine K.lload dMH_79 rfl ?_
  refine K.bipush (32 : Int32) dMH_81 rfl ?_
  refine K.lshr dMH_83 ?_
  refine K.ladd dMH_84 ?_
  exact K.lreturn dMH_85 (by decide) (by decide) ⟨_, rfl, rfl, trivial⟩
theorem rmDD (l : Launch) (Z : State) (a0 : Array Value) (hw : Hw Z a0) (a : Addr) (d m x : Int64) (s : Int32) (h : Heap) (n0 : Nat) (P1 : Fld Z h a "com/example/entry_by_measure/entrybymeasure/service/Divisor" "divisor" "J" (.long d)) (P2 : Fld Z h a "com/example/entry_by_measure/entrybymeasure/service/Divisor" "multiplier" "J" (.long m)) (P3 : Fld Z h a "com/example/entry_by_measure/entrybymeasure/service/Divisor" "shift" "I" (.int s)) : Con l Z ⟨"com/example/entry_by_measure/entrybymeasure/service/Divisor", "divide", "(J)J"⟩ prog_44_method_2_code 5 (some .long) ⟨1, 0, 0, 31⟩ #[.ref a, .long x] h n0 (fun vr h' => ∃ z, vr = some (.long z) ∧ (h' = h ∧ True)) := by
  refine Con.of pnDD (fun m_ => efDD m_ a x) (fun E K => ?_)
  refine K.aloadN dDD_0 rfl rfl ?_
  refine K.getF dDD_1 (wd233 hw) P2 ?_
  refine K.lloadN dDD_4 rfl ?_
  refine K.callS [.long m, .long x] [] 0 0 0 dDD_5 (wd293 hw) (wd294 hw) (wd3 hw) (wd295 hw) (by decide) (rmMH l Z a0 hw m x h n0) rfl (lenOf pd_2 rfl) rfl (Nat.le_of_eq rfl) (by decide) (by decide) rfl rfl (by decide) (by decide) (goJs fun z1 q2 => ?_)
  refine K.aloadN dDD_8 rfl rfl ?_
  refine K.getF dDD_9 (wd233 hw) P2 ?_
  refine K.bipush (63 : Int32) dDD_12 rfl ?_
  refine K.lshr dDD_14 ?_
  refine K.lloadN dDD_15 rfl ?_
  refine K.land dDD_16 ?_
  refine K.ladd dDD_17 ?_
  refine K.lstoreN #[oA a, oJ x, oT, oJ (z1 + ((m >>> ((63 : Int32) &&& 63).toInt64) &&& x)), oT] dDD_18 rfl ?_
  refine K.aloadN dDD_19 rfl rfl ?_
  refine K.getF dDD_20 (wd86 hw) P1 ?_
  refine K.lconst (1 : Int64) dDD_23 rfl ?_
  refine K.lc_ne dDD_24 dDD_25 (fun hc3 => ?_) (fun hc3 => ?_)
  · refine K.lloadN dDD_28 rfl ?_
    refine K.goto dDD_29 ?_
    exact K.lreturn dDD_38 (by decide) (by decide) ⟨_, rfl, rfl, trivial⟩
  · refine K.lloadN dDD_32 rfl ?_
    refine K.aloadN dDD_33 rfl rfl ?_
    refine K.getF dDD_34 (wd91 hw) P3 ?_
    refine K.lushr dDD_37 ?_
    exact K.lreturn dDD_38 (by decide) (by decide) ⟨_, rfl, rfl, trivial⟩
theorem rmDU (l : Launch) (Z : State) (a0 : Array Value) (hw : Hw Z a0) (a : Addr) (d m x : Int64) (s : Int32) (h : Heap) (n0 : Nat) (P1 : Fld Z h a "com/example/entry_by_measure/entrybymeasure/service/Divisor" "divisor" "J" (.long d)) (P2 : Fld Z h a "com/example/entry_by_measure/entrybymeasure/service/Divisor" "multiplier" "J" (.long m)) (P3 : Fld Z h a "com/example/entry_by_measure/entrybymeasure/service/Divisor" "shift" "I" (.int s)) (PE : Exa Z h a "com/example/entry_by_measure/entrybymeasure/service/Divisor") : Con l Z ⟨"com/example/entry_by_measure/entrybymeasure/service/Divisor", "divideUp", "(J)J"⟩ prog_44_method_3_code 5 (some .long) ⟨2, 0, 0, 47⟩ #[.ref a, .long x] h n0 (fun vr h' => ∃ z, vr = some (.long z) ∧ (h' = h ∧ True)) := by
  refine Con.of pnDU (fun m_ => efDU m_ a x) (fun E K => ?_)
  refine K.aloadN dDU_0 rfl rfl ?_
  refine K.lloadN dDU_1 rfl ?_
  refine K.callV (a := a) [.long x] [] 0 0 0 dDU_2 (wd288 hw) (wd289 hw) (wd291 hw) (wd290 hw) (wd72 hw) (wd292 hw) (by decide) (rmDD l Z a0 hw a d m x s h n0 P1 P2 P3) PE rfl (lenOf pd_3 rfl) rfl (Nat.le_of_eq rfl) (by decide) (by decide) rfl rfl (by decide) (by decide) (goJs fun z1 q2 => ?_)
  refine K.lstoreN #[oA a, oJ x, oT, oJ z1, oT] dDU_5 rfl ?_
  refine K.lloadN dDU_6 rfl ?_
  refine K.aloadN dDU_7 rfl rfl ?_
  refine K.getF dDU_8 (wd86 hw) P1 ?_
  refine K.lmul dDU_11 ?_
  refine K.lloadN dDU_12 rfl ?_
  refine K.lc_ne dDU_13 dDU_14 (fun hc3 => ?_) (fun hc3 => ?_)
  · refine K.lloadN dDU_17 rfl ?_
    refine K.goto dDU_18 ?_
    exact K.lreturn dDU_24 (by decide) (by decide) ⟨_, rfl, rfl, trivial⟩
  · refine K.lloadN dDU_21 rfl ?_
    refine K.lconst (1 : Int64) dDU_22 rfl ?_
    refine K.ladd dDU_23 ?_
    exact K.lreturn dDU_24 (by decide) (by decide) ⟨_, rfl, rfl, trivial⟩
theorem rmDC (l : Launch) (Z : State) (a0 : Array Value) (hw : Hw Z a0) (a : Addr) (x y v : Int64) (h : Heap) (n0 : Nat) (P0 : Exa Z h a "com/example/entry_by_measure/entrybymeasure/model/Decision") (P1 : Fld Z h a "com/example/entry_by_measure/entrybymeasure/model/Decision" "allowed" "Z" (.int 0)) (P2 : Fld Z h a "com/example/entry_by_measure/entrybymeasure/model/Decision" "remaining" "J" (.long 0)) (P3 : Fld Z h a "com/example/entry_by_measure/entrybymeasure/model/Decision" "waitMillis" "J" (.long 0)) (P4 : Fld Z h a "com/example/entry_by_measure/entrybymeasure/model/Decision" "resetMillis" "J" (.long 0)) (P5 : Fld Z h a "com/example/entry_by_measure/entrybymeasure/model/Decision" "failure" "Lcom/example/entry_by_measure/entrybymeasure/model/StoreFailure;" .null) (P6 : n0 ≤ a) : Con l Z ⟨"com/example/entry_by_measure/entrybymeasure/model/Decision", "<init>", "(ZJJJ)V"⟩ prog_16_method_1_code 8 none ⟨1, 0, 0, 12⟩ #[.ref a, .int 1, .long x, .long y, .long v] h n0 (fun vr h' => vr = none ∧ (Keep h h' [a])) := by
  refine Con.of pnDC (fun m_ => efDC m_ a (1 : Int32) x y v) (fun E K => ?_)
  have K1 : Keep h h [a] := Keep.refl _ _
  refine K.aloadN dDC_0 rfl rfl ?_
  refine K.initO 0 dDC_1 (wd308 hw) (wd15 hw) (wd16 hw) rfl (by decide) (Nat.le_of_eq rfl) (by decide) ?_
  refine K.aloadN dDC_4 rfl rfl ?_
  refine K.iloadN dDC_5 rfl ?_
  refine K.putF dDC_6 (wd309 hw) P1 P0 (Or.inr ⟨(wd310 hw), rfl, rfl⟩) (wd304 hw) (ty := .boolean) (by decide) rfl rfl P6 (fun h2 W3 => ?_)
  have K4 := K1.wr W3 (Or.inl (mg 0 rfl))
  have E5 := P0.wr W3
  have F6 := P1.same W3
  have F7 := P2.other W3 (Or.inr (sn6 hw))
  have F8 := P3.other W3 (Or.inr (sn7 hw))
  have F9 := P4.other W3 (Or.inr (sn8 hw))
  have F10 := P5.other W3 (Or.inr (sn9 hw))
  refine K.aloadN dDC_9 rfl rfl ?_
  refine K.lloadN dDC_10 rfl ?_
  refine K.putF dDC_11 (wd311 hw) F7 E5 (Or.inr ⟨(wd312 hw), rfl, rfl⟩) (wd304 hw) (ty := .long) (by decide) rfl rfl P6 (fun h11 W12 => ?_)
  have K13 := K4.wr W12 (Or.inl (mg 0 rfl))
  have E14 := E5.wr W12
  have F15 := F6.other W12 (Or.inr (sn10 hw))
  have F16 := F7.same W12
  have F17 := F8.other W12 (Or.inr (sn11 hw))
  have F18 := F9.other W12 (Or.inr (sn12 hw))
  have F19 := F10.other W12 (Or.inr (sn13 hw))
  refine K.aloadN dDC_14 rfl rfl ?_
  refine K.lload dDC_15 rfl ?_
  refine K.putF dDC_17 (wd313 hw) F17 E14 (Or.inr ⟨(wd314 hw), rfl, rfl⟩) (wd304 hw) (ty := .long) (by decide) rfl rfl P6 (fun h20 W21 => ?_)
  have K22 := K13.wr W21 (Or.inl (mg 0 rfl))
  have E23 := E14.wr W21
  have F24 := F15.other W21 (Or.inr (sn14 hw))
  have F25 := F16.other W21 (Or.inr (sn15 hw))
  have F26 := F17.same W21
  have F27 := F18.other W21 (Or.inr (sn16 hw))
  have F28 := F19.other W21 (Or.inr (sn17 hw))
  refine K.aloadN dDC_20 rfl rfl ?_
  refine K.lload dDC_21 rfl ?_
  refine K.putF dDC_23 (wd315 hw) F27 E23 (Or.inr ⟨(wd316 hw), rfl, rfl⟩) (wd304 hw) (ty := .long) (by decide) rfl rfl P6 (fun h29 W30 => ?_)
  have K31 := K22.wr W30 (Or.inl (mg 0 rfl))
  have E32 := E23.wr W30
  have F33 := F24.other W30 (Or.inr (sn18 hw))
  have F34 := F25.other W30 (Or.inr (sn19 hw))
  have F35 := F26.other W30 (Or.inr (sn20 hw))
  have F36 := F27.same W30
  have F37 := F28.other W30 (Or.inr (sn21 hw))
  refine K.aloadN dDC_26 rfl rfl ?_
  refine K.aconst_null dDC_27 ?_
  refine K.putF dDC_28 (wd317 hw) F37 E32 (Or.inr ⟨(wd318 hw), rfl, rfl⟩) (wd304 hw) (ty := (.object "com/example/entry_by_measure/entrybymeasure/model/StoreFailure")) (by decide) rfl rfl P6 (fun h38 W39 => ?_)
  have K40 := K31.wr W39 (Or.inl (mg 0 rfl))
  have E41 := E32.wr W39
  have F42 := F33.other W39 (Or.inr (sn22 hw))
  have F43 := F34.other W39 (Or.inr (sn23 hw))
  have F44 := F35.other W39 (Or.inr (sn24 hw))
  have F45 := F36.other W39 (Or.inr (sn25 hw))
  have F46 := F37.same W39
  exact K.ret dDC_31 (by decide) (by decide) ⟨rfl, K40⟩
theorem rmDA (l : Launch) (Z : State) (a0 : Array Value) (hw : Hw Z a0) (x y : Int64) (h : Heap) (n0 : Nat)  : Con l Z ⟨"com/example/entry_by_measure/entrybymeasure/model/Decision", "allowed", "(JJ)Lcom/example/entry_by_measure/entrybymeasure/model/Decision;"⟩ prog_16_method_3_code 4 (some (.object "com/example/entry_by_measure/entrybymeasure/model/Decision")) ⟨2, 1, 5, 32⟩ #[.long x, .long y] h n0 (fun vr h' => ∃ t, vr = some (.ref t) ∧ Keep h h' []) := by
  refine Con.of pnDA (fun m_ => efDA m_ x y) (fun E K => ?_)
  have K1 : Keep h h [] := Keep.refl _ _
  refine K.newO 1 5 dDA_0 (wd303 hw) (wd304 hw) (wd301 hw) rfl rfl (by decide) (by decide) (fun h3 a2 ha4 g5 X6 A7 D8 => ?_)
  have ks_a2 := ha_ge K1.1 ha4
  have K9 := K1.ext X6
  have F10 : Fld Z h3 a2 "com/example/entry_by_measure/entrybymeasure/model/Decision" "allowed" "Z" (.int 0) := D8 (Or.inr (wd310 hw)) (ty := .boolean) (by decide)
  have F11 : Fld Z h3 a2 "com/example/entry_by_measure/entrybymeasure/model/Decision" "remaining" "J" (.long 0) := D8 (Or.inr (wd312 hw)) (ty := .long) (by decide)
  have F12 : Fld Z h3 a2 "com/example/entry_by_measure/entrybymeasure/model/Decision" "waitMillis" "J" (.long 0) := D8 (Or.inr (wd314 hw)) (ty := .long) (by decide)
  have F13 : Fld Z h3 a2 "com/example/entry_by_measure/entrybymeasure/model/Decision" "resetMillis" "J" (.long 0) := D8 (Or.inr (wd316 hw)) (ty := .long) (by decide)
  have F14 : Fld Z h3 a2 "com/example/entry_by_measure/entrybymeasure/model/Decision" "failure" "Lcom/example/entry_by_measure/entrybymeasure/model/StoreFailure;" .null := D8 (Or.inr (wd318 hw)) (ty := (.object "com/example/entry_by_measure/entrybymeasure/model/StoreFailure")) (by decide)
  refine K.dup dDA_3 rfl ?_
  refine K.iconst (1 : Int32) dDA_4 rfl ?_
  refine K.lloadN dDA_5 rfl ?_
  refine K.lconst (0 : Int64) dDA_6 rfl ?_
  refine K.lloadN dDA_7 rfl ?_
  refine K.callI (a := a2) [.int 1, .long x, .long 0, .long y] [.ref a2] 1 1 5 dDA_8 rfl rfl (wd305 hw) (wd306 hw) (wd301 hw) (wd307 hw) (by decide) (rmDC l Z a0 hw a2 x (0 : Int64) y h3 n0 A7 F10 F11 F12 F13 F14 g5) rfl (lenOf pd_4 rfl) rfl (Nat.le_of_eq rfl) (by decide) (by decide) rfl rfl (by decide) (by decide) (goU fun h15 q16 => ?_)
  have K17 := q16
  have K18 := K9.trans K17 (allS (Or.inr ks_a2) all0)
  have E19 := A7.keep K17
  exact K.areturn dDA_11 rfl rfl rfl (by decide) (by decide) ⟨_, rfl, K18⟩
theorem rmHO (l : Launch) (Z : State) (a0 : Array Value) (hw : Hw Z a0) (a : Addr) (f p : Int64) (h : Heap) (n0 : Nat) (P0 : Fld Z h a "com/example/entry_by_measure/entrybymeasure/service/TokenBucket$Shape" "fullParts" "J" (.long f)) : Con l Z ⟨"com/example/entry_by_measure/entrybymeasure/service/TokenBucket$Shape", "holds", "(J)Z"⟩ prog_55_method_6_code 3 (some .boolean) ⟨0, 0, 0, 0⟩ #[.ref a, .long p] h n0 (fun vr h' => vr = some (.int (own_h f p)) ∧ h' = h) := by
  refine Con.of pnHO (fun m_ => efHO m_ a p) (fun E K => ?_)
  refine K.lloadN dHO_0 rfl ?_
  refine K.aloadN dHO_1 rfl rfl ?_
  refine K.getF dHO_2 (wd68 hw) P0 ?_
  refine K.ldc2J dHO_5 (wd326 hw) ?_
  refine K.lsub dHO_8 ?_
  refine K.lc_lt dHO_9 dHO_10 (fun hc1 => ?_) (fun hc1 => ?_)
  · refine K.iconst (0 : Int32) dHO_17 rfl ?_
    exact K.ireturn dHO_18 (Or.inr (Or.inl rfl)) rfl (by decide) (by decide) ⟨(by rw [own_h, if_pos hc1]), rfl⟩
  · refine K.iconst (1 : Int32) dHO_13 rfl ?_
    refine K.goto dHO_14 ?_
    exact K.ireturn dHO_18 (Or.inr (Or.inl rfl)) rfl (by decide) (by decide) ⟨(by rw [own_h, if_neg hc1]), rfl⟩
theorem rmNU (l : Launch) (Z : State) (a0 : Array Value) (hw : Hw Z a0) (a : Addr) (h : Heap) (n0 : Nat)  : Con l Z ⟨"java/lang/Number", "<init>", "()V"⟩ jdk_18_method_1_code 1 none ⟨1, 0, 0, 12⟩ #[.ref a] h n0 (fun vr h' => vr = none ∧ h' = h) := by
  refine Con.of pnNU (fun m_ => efNU m_ a) (fun E K => ?_)
  refine K.aloadN dNU_0 rfl rfl ?_
  refine K.initO 0 dNU_1 (wd124 hw) (wd15 hw) (wd16 hw) rfl (by decide) (Nat.le_of_eq rfl) (by decide) ?_
  exact K.ret dNU_4 (by decide) (by decide) ⟨rfl, rfl⟩
theorem rmBM (l : Launch) (Z : State) (a0 : Array Value) (hw : Hw Z a0) (a m : Addr) (k : Nat) (f : Int32 → Value) (h : Heap) (n0 : Nat) (PE : Exa Z h a "java/math/BigInteger") (P1 : Fld Z h a "java/math/BigInteger" "signum" "I" (.int 0)) (P2 : Fld Z h a "java/math/BigInteger" "mag" "[I" .null) (PA : Ia Z h m .int (Int32.ofNat k) f) (ga : n0 ≤ a) (hma : m ≠ a) (hk1 : 1 ≤ k) (hk : k ≤ 8) : Con l Z ⟨"java/math/BigInteger", "<init>", "([II)V"⟩ jdk_2097_method_25_code 3 none ⟨2, 0, 0, 24⟩ #[.ref a, .ref m, .int 1] h n0 (fun vr h' => vr = none ∧ (Keep h h' [a] ∧ Fld Z h' a "java/math/BigInteger" "signum" "I" (.int 1) ∧ Fld Z h' a "java/math/BigInteger" "mag" "[I" (.ref m))) := by
  refine Con.of pnBM (fun m_ => efBM m_ a m (1 : Int32)) (fun E K => ?_)
  have K1 : Keep h h [a] := Keep.refl _ _
  refine K.aloadN dBM_0 rfl rfl ?_
  refine K.callI (a := a) [] [] 0 0 0 dBM_1 rfl rfl (wd118 hw) (wd119 hw) (wd122 hw) (wd123 hw) (by decide) (rmNU l Z a0 hw a h n0 ) rfl (lenOf pd_5 rfl) rfl (Nat.le_of_eq rfl) (by decide) (by decide) rfl rfl (by decide) (by decide) (goN ?_)
  refine K.aloadN dBM_4 rfl rfl ?_
  refine K.aloadN dBM_5 rfl rfl ?_
  refine K.arraylength dBM_6 PA ?_
  refine K.if_ne dBM_7 (fun u => absurd u (fun q => absurd (own_inj (j := 0) (by omega) (by decide) q) (by omega))) (fun _ => ?_)
  refine K.iloadN dBM_14 rfl ?_
  refine K.putF dBM_15 (wd100 hw) P1 PE (Or.inr ⟨(wd101 hw), rfl, rfl⟩) (wd103 hw) (ty := .int) (by decide) rfl rfl ga (fun h2 W3 => ?_)
  have K4 := K1.wr W3 (Or.inl (mg 0 rfl))
  have E5 := PE.wr W3
  have F6 := P1.same W3
  have F7 := P2.other W3 (Or.inr (sn26 hw))
  have I8 := PA.other W3 hma
  refine K.aloadN dBM_18 rfl rfl ?_
  refine K.aloadN dBM_19 rfl rfl ?_
  refine K.putF dBM_20 (wd104 hw) F7 E5 (Or.inr ⟨(wd105 hw), rfl, rfl⟩) (wd103 hw) (ty := (.array .int)) (by decide) rfl rfl ga (fun h9 W10 => ?_)
  have K11 := K4.wr W10 (Or.inl (mg 0 rfl))
  have E12 := E5.wr W10
  have F13 := F6.other W10 (Or.inr (sn27 hw))
  have F14 := F7.same W10
  have I15 := I8.other W10 hma
  refine K.aloadN dBM_23 rfl rfl ?_
  refine K.getF dBM_24 (wd104 hw) F14 ?_
  refine K.arraylength dBM_27 I15 ?_
  refine K.ldcI dBM_28 (wd125 hw) ?_
  refine K.ic_lt dBM_30 (fun _ => ?_) (fun u => absurd ((own_lt (j := 67108864) (by omega) (by decide)).mpr (by omega)) u)
  exact K.ret dBM_37 (by decide) (by decide) ⟨rfl, K11, F13, F14⟩
theorem rmMS (l : Launch) (Z : State) (a0 : Array Value) (hw : Hw Z a0) (r q a : Addr) (gq ga : Nat → Int32) (x : Int32) (off : Nat) (h : Heap) (n0 : Nat) (A1 : Ia Z h q .int (Int32.ofNat 5) (intF gq)) (A2 : Ia Z h a .int (Int32.ofNat 2) (intF ga)) (gqe : n0 ≤ q) (hqa : q ≠ a) (hoff : off ≤ 1) : Con l Z ⟨"java/math/MutableBigInteger", "mulsub", "([I[IIII)I"⟩ jdk_2101_method_39_code 15 (some .int) ⟨0, 0, 0, 0⟩ #[.ref r, .ref q, .ref a, .int x, .int 2, .int (Int32.ofNat off)] h n0 (fun vr h' => ∃ z, vr = some (.int z) ∧ (Keep h h' [q] ∧ ∃ (w1 w2 : Int32) (c : Int), Ia Z h' q .int (Int32.ofNat 5) (intF (upd (upd gq (off + 2) w2) (off + 1) w1)) ∧ uv z = c % 4294967296 ∧ 0 ≤ c ∧ c ≤ 4294967296 ∧ uv (gq (off + 1)) * 4294967296 + uv (gq (off + 2)) - (uv (ga 0) * uv x * 4294967296 + uv (ga 1) * uv x) = uv w1 * 4294967296 + uv w2 - c * 18446744073709551616)) := by
  refine Con.of pnMS (fun m_ => efMS m_ r q a x (2 : Int32) (Int32.ofNat off)) (fun E K => ?_)
  have K1 : Keep h h [q] := Keep.refl _ _
  refine K.iloadN dMS_0 rfl ?_
  refine K.i2l dMS_1 ?_
  refine K.ldc2J dMS_2 (wd187 hw) ?_
  refine K.land dMS_5 ?_
  refine K.lstore #[oA r, oA q, oA a, oI x, oI (2 : Int32), oI (Int32.ofNat off), oJ (x.toInt64 &&& (4294967295 : Int64)), oT, oU, oU, oU, oU, oU, oU, oU] dMS_6 rfl ?_
  refine K.lconst (0 : Int64) dMS_8 rfl ?_
  refine K.lstore #[oA r, oA q, oA a, oI x, oI (2 : Int32), oI (Int32.ofNat off), oJ (x.toInt64 &&& (4294967295 : Int64)), oT, oJ (0 : Int64), oT, oU, oU, oU, oU, oU] dMS_9 rfl ?_
  refine K.iload dMS_11 rfl ?_
  refine K.iload dMS_13 rfl ?_
  refine K.iadd dMS_15 ?_
  rw [own_i2 off]
  refine K.istore #[oA r, oA q, oA a, oI x, oI (2 : Int32), oI (Int32.ofNat (off + 2)), oJ (x.toInt64 &&& (4294967295 : Int64)), oT, oJ (0 : Int64), oT, oU, oU, oU, oU, oU] dMS_16 rfl ?_
  refine K.iload dMS_18 rfl ?_
  refine K.iconst (1 : Int32) dMS_20 rfl ?_
  refine K.isub dMS_21 ?_
  show Wk E h 0 0 22 #[oA r, oA q, oA a, oI x, oI (2 : Int32), oI (Int32.ofNat (off + 2)), oJ (x.toInt64 &&& (4294967295 : Int64)), oT, oJ (0 : Int64), oT, oU, oU, oU, oU, oU] [.int 1]
  refine K.istore #[oA r, oA q, oA a, oI x, oI (2 : Int32), oI (Int32.ofNat (off + 2)), oJ (x.toInt64 &&& (4294967295 : Int64)), oT, oJ (0 : Int64), oT, oI (1 : Int32), oU, oU, oU, oU] dMS_22 rfl ?_
  refine K.iload dMS_24 rfl ?_
  refine K.if_lt dMS_26 (fun u => absurd u (by decide)) (fun _ => ?_)
  refine K.aloadN dMS_29 rfl rfl ?_
  refine K.iload dMS_30 rfl ?_
  refine K.iaload (v := .int (ga 1)) dMS_32 A2 (by decide) (by decide) rfl ?_
  refine K.i2l dMS_33 ?_
  refine K.ldc2J dMS_34 (wd187 hw) ?_
  refine K.land dMS_37 ?_
  refine K.lload dMS_38 rfl ?_
  refine K.lmul dMS_40 ?_
  refine K.lload dMS_41 rfl ?_
  refine K.ladd dMS_43 ?_
  show Wk E h 0 0 44 #[oA r, oA q, oA a, oI x, oI (2 : Int32), oI (Int32.ofNat (off + 2)), oJ (x.toInt64 &&& (4294967295 : Int64)), oT, oJ (0 : Int64), oT, oI (1 : Int32), oU, oU, oU, oU] [.long (msP (ga 1) x (0 : Int64))]
  obtain ⟨p1, ep1⟩ : ∃ x_ : Int64, x_ = msP (ga 1) x (0 : Int64) := ⟨_, rfl⟩
  rw [← ep1]
  refine K.lstore #[oA r, oA q, oA a, oI x, oI (2 : Int32), oI (Int32.ofNat (off + 2)), oJ (x.toInt64 &&& (4294967295 : Int64)), oT, oJ (0 : Int64), oT, oI (1 : Int32), oJ p1, oT, oU, oU] dMS_44 rfl ?_
  refine K.aloadN dMS_46 rfl rfl ?_
  refine K.iload dMS_47 rfl ?_
  refine K.iaload (v := .int (gq (off + 2))) dMS_49 A1 (own_nn (by omega)) ((own_lt (j := 5) (by omega) (by decide)).mpr (by omega)) (own_ri _ (by omega)) ?_
  refine K.i2l dMS_50 ?_
  refine K.lload dMS_51 rfl ?_
  refine K.lsub dMS_53 ?_
  obtain ⟨f1, ef1⟩ : ∃ x_ : Int64, x_ = ((gq (off + 2)).toInt64) - p1 := ⟨_, rfl⟩
  rw [← ef1]
  refine K.lstore #[oA r, oA q, oA a, oI x, oI (2 : Int32), oI (Int32.ofNat (off + 2)), oJ (x.toInt64 &&& (4294967295 : Int64)), oT, oJ (0 : Int64), oT, oI (1 : Int32), oJ p1, oT, oJ f1, oT] dMS_54 rfl ?_
  refine K.aloadN dMS_56 rfl rfl ?_
  refine K.iload dMS_57 rfl ?_
  refine K.iinc (Int32.ofNat (off + 1)) #[oA r, oA q, oA a, oI x, oI (2 : Int32), oI (Int32.ofNat (off + 1)), oJ (x.toInt64 &&& (4294967295 : Int64)), oT, oJ (0 : Int64), oT, oI (1 : Int32), oJ p1, oT, oJ f1, oT] dMS_59 rfl (own_dec _) rfl ?_
  refine K.lload dMS_62 rfl ?_
  refine K.l2i dMS_64 ?_
  obtain ⟨w1, ew1⟩ : ∃ x_ : Int32, x_ = f1.toInt32 := ⟨_, rfl⟩
  rw [← ew1]
  refine K.iastore dMS_65 A1 (own_nn (by omega)) ((own_lt (j := 5) (by omega) (by decide)).mpr (by omega)) gqe (fun h2 W3 A4 => ?_)
  have K5 := K1.wr W3 (Or.inl (mg 0 rfl))
  have I6 := A2.other W3 (Ne.symm hqa)
  have A7 := A4.congr (own_upd gq (by omega) w1 _)
  refine K.lload dMS_66 rfl ?_
  refine K.bipush (32 : Int32) dMS_68 rfl ?_
  refine K.lushr dMS_70 ?_
  refine K.lload dMS_71 rfl ?_
  refine K.ldc2J dMS_73 (wd187 hw) ?_
  refine K.land dMS_76 ?_
  refine K.lload dMS_77 rfl ?_
  refine K.l2i dMS_79 ?_
  refine K.iconst (-1 : Int32) dMS_80 rfl ?_
  refine K.ixor dMS_81 ?_
  refine K.i2l dMS_82 ?_
  refine K.ldc2J dMS_83 (wd187 hw) ?_
  refine K.land dMS_86 ?_
  refine cut (P := ∀ z8 : Int32, z8 = (if (((p1.toInt32 ^^^ (-1 : Int32)).toInt64) &&& (4294967295 : Int64)) < (f1 &&& (4294967295 : Int64)) then 1 else 0) → Wk E h2 0 0 96 #[oA r, oA q, oA a, oI x, oI (2 : Int32), oI (Int32.ofNat (off + 1)), oJ (x.toInt64 &&& (4294967295 : Int64)), oT, oJ (0 : Int64), oT, oI (1 : Int32), oJ p1, oT, oJ f1, oT] [.int z8, .long ((p1.toUInt64 >>> ((32 : Int32) &&& 63).toInt64.toUInt64).toInt64)]) (fun J9 => ?_) ?_
  · refine K.lc_le dMS_87 dMS_88 (fun hc10 => ?_) (fun hc10 => ?_)
    · refine K.iconst (1 : Int32) dMS_91 rfl ?_
      refine K.goto dMS_92 ?_
      exact J9 _ (if_pos hc10).symm
    · refine K.iconst (0 : Int32) dMS_95 rfl ?_
      exact J9 _ (if_neg hc10).symm
  intro z8 hz8
  refine K.i2l dMS_96 ?_
  refine K.ladd dMS_97 ?_
  obtain ⟨c1, ec1⟩ : ∃ x_ : Int64, x_ = ((p1.toUInt64 >>> ((32 : Int32) &&& 63).toInt64.toUInt64).toInt64) + z8.toInt64 := ⟨_, rfl⟩
  rw [← ec1]
  rw [ef1] at ew1 hz8
  obtain ⟨hu1, hv1, hx1⟩ := ms_p (ga 1) x (c := (0 : Int64)) (by decide) (by decide)
  rw [← ep1] at hu1
  obtain ⟨hs1, hc1a, hc1b⟩ := ms_step hu1 (by have : (0 : Int64).toInt = 0 := rfl; omega) ew1 hz8 ec1
  refine K.lstore #[oA r, oA q, oA a, oI x, oI (2 : Int32), oI (Int32.ofNat (off + 1)), oJ (x.toInt64 &&& (4294967295 : Int64)), oT, oJ c1, oT, oI (1 : Int32), oJ p1, oT, oJ f1, oT] dMS_98 rfl ?_
  refine K.iinc ((0 : Int32)) #[oA r, oA q, oA a, oI x, oI (2 : Int32), oI (Int32.ofNat (off + 1)), oJ (x.toInt64 &&& (4294967295 : Int64)), oT, oJ c1, oT, oI (0 : Int32), oJ p1, oT, oJ f1, oT] dMS_100 rfl rfl rfl ?_
  refine K.goto dMS_103 ?_
  refine K.iload dMS_24 rfl ?_
  refine K.if_lt dMS_26 (fun u => absurd u (by decide)) (fun _ => ?_)
  refine K.aloadN dMS_29 rfl rfl ?_
  refine K.iload dMS_30 rfl ?_
  refine K.iaload (v := .int (ga 0)) dMS_32 I6 (by decide) (by decide) rfl ?_
  refine K.i2l dMS_33 ?_
  refine K.ldc2J dMS_34 (wd187 hw) ?_
  refine K.land dMS_37 ?_
  refine K.lload dMS_38 rfl ?_
  refine K.lmul dMS_40 ?_
  refine K.lload dMS_41 rfl ?_
  refine K.ladd dMS_43 ?_
  show Wk E h2 0 0 44 #[oA r, oA q, oA a, oI x, oI (2 : Int32), oI (Int32.ofNat (off + 1)), oJ (x.toInt64 &&& (4294967295 : Int64)), oT, oJ c1, oT, oI (0 : Int32), oJ p1, oT, oJ f1, oT] [.long (msP (ga 0) x c1)]
  obtain ⟨p2, ep2⟩ : ∃ x_ : Int64, x_ = msP (ga 0) x c1 := ⟨_, rfl⟩
  rw [← ep2]
  refine K.lstore #[oA r, oA q, oA a, oI x, oI (2 : Int32), oI (Int32.ofNat (off + 1)), oJ (x.toInt64 &&& (4294967295 : Int64)), oT, oJ c1, oT, oI (0 : Int32), oJ p2, oT, oJ f1, oT] dMS_44 rfl ?_
  refine K.aloadN dMS_46 rfl rfl ?_
  refine K.iload dMS_47 rfl ?_
  refine K.iaload (v := .int (gq (off + 1))) dMS_49 A7 (own_nn (by omega)) ((own_lt (j := 5) (by omega) (by decide)).mpr (by omega)) ((own_ri _ (by omega)).trans (congrArg Value.int (upd_ne gq (by omega) w1))) ?_
  refine K.i2l dMS_50 ?_
  refine K.lload dMS_51 rfl ?_
  refine K.lsub dMS_53 ?_
  obtain ⟨f2, ef2⟩ : ∃ x_ : Int64, x_ = ((gq (off + 1)).toInt64) - p2 := ⟨_, rfl⟩
  rw [← ef2]
  refine K.lstore #[oA r, oA q, oA a, oI x, oI (2 : Int32), oI (Int32.ofNat (off + 1)), oJ (x.toInt64 &&& (4294967295 : Int64)), oT, oJ c1, oT, oI (0 : Int32), oJ p2, oT, oJ f2, oT] dMS_54 rfl ?_
  refine K.aloadN dMS_56 rfl rfl ?_
  refine K.iload dMS_57 rfl ?_
  refine K.iinc (Int32.ofNat off) #[oA r, oA q, oA a, oI x, oI (2 : Int32), oI (Int32.ofNat off), oJ (x.toInt64 &&& (4294967295 : Int64)), oT, oJ c1, oT, oI (0 : Int32), oJ p2, oT, oJ f2, oT] dMS_59 rfl (own_dec _) rfl ?_
  refine K.lload dMS_62 rfl ?_
  refine K.l2i dMS_64 ?_
  obtain ⟨w2, ew2⟩ : ∃ x_ : Int32, x_ = f2.toInt32 := ⟨_, rfl⟩
  rw [← ew2]
  refine K.iastore dMS_65 A7 (own_nn (by omega)) ((own_lt (j := 5) (by omega) (by decide)).mpr (by omega)) gqe (fun h11 W12 A13 => ?_)
  have K14 := K5.wr W12 (Or.inl (mg 0 rfl))
  have I15 := I6.other W12 (Ne.symm hqa)
  have A16 := A13.congr (own_upd (upd gq (off + 2) w1) (by omega) w2 _)
  refine K.lload dMS_66 rfl ?_
  refine K.bipush (32 : Int32) dMS_68 rfl ?_
  refine K.lushr dMS_70 ?_
  refine K.lload dMS_71 rfl ?_
  refine K.ldc2J dMS_73 (wd187 hw) ?_
  refine K.land dMS_76 ?_
  refine K.lload dMS_77 rfl ?_
  refine K.l2i dMS_79 ?_
  refine K.iconst (-1 : Int32) dMS_80 rfl ?_
  refine K.ixor dMS_81 ?_
  refine K.i2l dMS_82 ?_
  refine K.ldc2J dMS_83 (wd187 hw) ?_
  refine K.land dMS_86 ?_
  refine cut (P := ∀ z17 : Int32, z17 = (if (((p2.toInt32 ^^^ (-1 : Int32)).toInt64) &&& (4294967295 : Int64)) < (f2 &&& (4294967295 : Int64)) then 1 else 0) → Wk E h11 0 0 96 #[oA r, oA q, oA a, oI x, oI (2 : Int32), oI (Int32.ofNat off), oJ (x.toInt64 &&& (4294967295 : Int64)), oT, oJ c1, oT, oI (0 : Int32), oJ p2, oT, oJ f2, oT] [.int z17, .long ((p2.toUInt64 >>> ((32 : Int32) &&& 63).toInt64.toUInt64).toInt64)]) (fun J18 => ?_) ?_
  · refine K.lc_le dMS_87 dMS_88 (fun hc19 => ?_) (fun hc19 => ?_)
    · refine K.iconst (1 : Int32) dMS_91 rfl ?_
      refine K.goto dMS_92 ?_
      exact J18 _ (if_pos hc19).symm
    · refine K.iconst (0 : Int32) dMS_95 rfl ?_
      exact J18 _ (if_neg hc19).symm
  intro z17 hz17
  refine K.i2l dMS_96 ?_
  refine K.ladd dMS_97 ?_
  obtain ⟨c2, ec2⟩ : ∃ x_ : Int64, x_ = ((p2.toUInt64 >>> ((32 : Int32) &&& 63).toInt64.toUInt64).toInt64) + z17.toInt64 := ⟨_, rfl⟩
  rw [← ec2]
  rw [ef2] at ew2 hz17
  obtain ⟨hu2, hv2, hx2⟩ := ms_p (ga 0) x (c := c1) hc1a hc1b
  rw [← ep2] at hu2
  obtain ⟨hs2, hc2a, hc2b⟩ := ms_step hu2 (by have : (0 : Int64).toInt = 0 := rfl; omega) ew2 hz17 ec2
  refine K.lstore #[oA r, oA q, oA a, oI x, oI (2 : Int32), oI (Int32.ofNat off), oJ (x.toInt64 &&& (4294967295 : Int64)), oT, oJ c2, oT, oI (0 : Int32), oJ p2, oT, oJ f2, oT] dMS_98 rfl ?_
  refine K.iinc ((-1 : Int32)) #[oA r, oA q, oA a, oI x, oI (2 : Int32), oI (Int32.ofNat off), oJ (x.toInt64 &&& (4294967295 : Int64)), oT, oJ c2, oT, oI (-1 : Int32), oJ p2, oT, oJ f2, oT] dMS_100 rfl rfl rfl ?_
  refine K.goto dMS_103 ?_
  refine K.iload dMS_24 rfl ?_
  refine K.if_lt dMS_26 (fun _ => ?_) (fun u => absurd (by decide) u)
  refine K.lload dMS_106 rfl ?_
  refine K.l2i dMS_108 ?_
  exact K.ireturn dMS_109 (Or.inl rfl) rfl (by decide) (by decide) ⟨_, rfl, K14, w2, w1, c2.toInt, A16, uv_l2i c2, hc2a, hc2b, own_ms hs1 hs2⟩
theorem rmUC (l : Launch) (Z : State) (a0 : Array Value) (hw : Hw Z a0) (r : Addr) (x y : Int64) (h : Heap) (n0 : Nat)  : Con l Z ⟨"java/math/MutableBigInteger", "unsignedLongCompare", "(JJ)Z"⟩ jdk_2101_method_69_code 5 (some .boolean) ⟨0, 0, 0, 0⟩ #[.ref r, .long x, .long y] h n0 (fun vr h' => vr = some (.int (own_uc x y)) ∧ h' = h) := by
  refine Con.of pnUC (fun m_ => efUC m_ r x y) (fun E K => ?_)
  refine K.lloadN dUC_0 rfl ?_
  refine K.ldc2J dUC_1 (wd270 hw) ?_
  refine K.ladd dUC_4 ?_
  refine K.lloadN dUC_5 rfl ?_
  refine K.ldc2J dUC_6 (wd270 hw) ?_
  refine K.ladd dUC_9 ?_
  refine K.lc_le dUC_10 dUC_11 (fun hc1 => ?_) (fun hc1 => ?_)
  · refine K.iconst (1 : Int32) dUC_14 rfl ?_
    refine K.goto dUC_15 ?_
    exact K.ireturn dUC_19 (Or.inr (Or.inl rfl)) rfl (by decide) (by decide) ⟨by rw [own_uc, if_pos (uw_lt.mp hc1)], rfl⟩
  · refine K.iconst (0 : Int32) dUC_18 rfl ?_
    exact K.ireturn dUC_19 (Or.inr (Or.inl rfl)) rfl (by decide) (by decide) ⟨by rw [own_uc, if_neg (fun q => hc1 (uw_lt.mpr q))], rfl⟩
theorem rmM1 (l : Launch) (Z : State) (a0 : Array Value) (hw : Hw Z a0) (a m : Addr) (N : Int32) (f : Int32 → Value) (h : Heap) (n0 : Nat) (P0 : Exa Z h a "java/math/MutableBigInteger") (P1 : Fld Z h a "java/math/MutableBigInteger" "offset" "I" (.int 0)) (P2 : Fld Z h a "java/math/MutableBigInteger" "value" "[I" .null) (P3 : Fld Z h a "java/math/MutableBigInteger" "intLen" "I" (.int 0)) (P4 : n0 ≤ a) (P5 : Ia Z h m .int N f) (P6 : m ≠ a) : Con l Z ⟨"java/math/MutableBigInteger", "<init>", "([I)V"⟩ jdk_2101_method_3_code 2 none ⟨1, 0, 0, 12⟩ #[.ref a, .ref m] h n0 (fun vr h' => vr = none ∧ (Keep h h' [a] ∧ Fld Z h' a "java/math/MutableBigInteger" "offset" "I" (.int 0) ∧ Fld Z h' a "java/math/MutableBigInteger" "value" "[I" (.ref m) ∧ Fld Z h' a "java/math/MutableBigInteger" "intLen" "I" (.int N))) := by
  refine Con.of pnM1 (fun m_ => efM1 m_ a m) (fun E K => ?_)
  have K1 : Keep h h [a] := Keep.refl _ _
  refine K.aloadN dM1_0 rfl rfl ?_
  refine K.initO 0 dM1_1 (wd157 hw) (wd15 hw) (wd16 hw) rfl (by decide) (Nat.le_of_eq rfl) (by decide) ?_
  refine K.aloadN dM1_4 rfl rfl ?_
  refine K.iconst (0 : Int32) dM1_5 rfl ?_
  refine K.putF dM1_6 (wd158 hw) P1 P0 (Or.inl (wd159 hw)) (wd151 hw) (ty := .int) (by decide) rfl rfl P4 (fun h2 W3 => ?_)
  have K4 := K1.wr W3 (Or.inl (mg 0 rfl))
  have E5 := P0.wr W3
  have F6 := P1.same W3
  have F7 := P2.other W3 (Or.inr (sn28 hw))
  have F8 := P3.other W3 (Or.inr (sn29 hw))
  have I9 := P5.other W3 P6
  refine K.aloadN dM1_9 rfl rfl ?_
  refine K.aloadN dM1_10 rfl rfl ?_
  refine K.putF dM1_11 (wd160 hw) F7 E5 (Or.inl (wd161 hw)) (wd151 hw) (ty := (.array .int)) (by decide) rfl rfl P4 (fun h10 W11 => ?_)
  have K12 := K4.wr W11 (Or.inl (mg 0 rfl))
  have E13 := E5.wr W11
  have F14 := F6.other W11 (Or.inr (sn30 hw))
  have F15 := F7.same W11
  have F16 := F8.other W11 (Or.inr (sn31 hw))
  have I17 := I9.other W11 P6
  refine K.aloadN dM1_14 rfl rfl ?_
  refine K.aloadN dM1_15 rfl rfl ?_
  refine K.arraylength dM1_16 I17 ?_
  refine K.putF dM1_17 (wd162 hw) F16 E13 (Or.inl (wd163 hw)) (wd151 hw) (ty := .int) (by decide) rfl rfl P4 (fun h18 W19 => ?_)
  have K20 := K12.wr W19 (Or.inl (mg 0 rfl))
  have E21 := E13.wr W19
  have F22 := F14.other W19 (Or.inr (sn32 hw))
  have F23 := F15.other W19 (Or.inr (sn33 hw))
  have F24 := F16.same W19
  have I25 := I17.other W19 P6
  exact K.ret dM1_20 (by decide) (by decide) ⟨rfl, K20, F22, F23, F24⟩
theorem rmM0 (l : Launch) (Z : State) (a0 : Array Value) (hw : Hw Z a0) (a : Addr) (h : Heap) (n0 : Nat) (PE : Exa Z h a "java/math/MutableBigInteger") (P1 : Fld Z h a "java/math/MutableBigInteger" "offset" "I" (.int 0)) (P2 : Fld Z h a "java/math/MutableBigInteger" "value" "[I" .null) (P3 : Fld Z h a "java/math/MutableBigInteger" "intLen" "I" (.int 0)) (ga : n0 ≤ a) : Con l Z ⟨"java/math/MutableBigInteger", "<init>", "()V"⟩ jdk_2101_method_1_code 1 none ⟨1, 1, 1, 12⟩ #[.ref a] h n0 (fun vr h' => vr = none ∧ (∃ c, h.size ≤ c ∧ n0 ≤ c ∧ Keep h h' [a] ∧ (Fld Z h' a "java/math/MutableBigInteger" "offset" "I" (.int 0) ∧ Fld Z h' a "java/math/MutableBigInteger" "value" "[I" (.ref c) ∧ Fld Z h' a "java/math/MutableBigInteger" "intLen" "I" (.int 0)) ∧ Ia Z h' c .int 1 (fun _ => .int 0))) := by
  refine Con.of pnM0 (fun m_ => efM0 m_ a) (fun E K => ?_)
  have K1 : Keep h h [a] := Keep.refl _ _
  refine K.aloadN dM0_0 rfl rfl ?_
  refine K.initO 0 dM0_1 (wd157 hw) (wd15 hw) (wd16 hw) rfl (by decide) (Nat.le_of_eq rfl) (by decide) ?_
  refine K.aloadN dM0_4 rfl rfl ?_
  refine K.iconst (0 : Int32) dM0_5 rfl ?_
  refine K.putF dM0_6 (wd158 hw) P1 PE (Or.inl (wd159 hw)) (wd151 hw) (ty := .int) (by decide) rfl rfl ga (fun h2 W3 => ?_)
  have K4 := K1.wr W3 (Or.inl (mg 0 rfl))
  have E5 := PE.wr W3
  have F6 := P1.same W3
  have F7 := P2.other W3 (Or.inr (sn28 hw))
  have F8 := P3.other W3 (Or.inr (sn29 hw))
  refine K.aloadN dM0_9 rfl rfl ?_
  refine K.iconst (1 : Int32) dM0_10 rfl ?_
  refine K.newP (ty := .int) (dv := .int 0) 1 1 1 dM0_11 (wd109 hw) rfl rfl (by decide) (by decide) (by decide) rfl rfl (by decide) (by decide) (fun h10 a9 ha11 g12 X13 A14 => ?_)
  have ks_a9 := ha_ge K4.1 ha11
  have lt_a_a9 : a < a9 := by rw [ha11]; exact E5.lt
  have K15 := K4.ext X13
  have E16 := E5.ext X13
  have F17 := F6.ext X13
  have F18 := F7.ext X13
  have F19 := F8.ext X13
  refine K.putF dM0_13 (wd160 hw) F18 E16 (Or.inl (wd161 hw)) (wd151 hw) (ty := (.array .int)) (by decide) rfl rfl ga (fun h20 W21 => ?_)
  have K22 := K15.wr W21 (Or.inl (mg 0 rfl))
  have E23 := E16.wr W21
  have F24 := F17.other W21 (Or.inr (sn30 hw))
  have F25 := F18.same W21
  have F26 := F19.other W21 (Or.inr (sn31 hw))
  have I27 := A14.other W21 (Nat.ne_of_gt lt_a_a9)
  refine K.aloadN dM0_16 rfl rfl ?_
  refine K.iconst (0 : Int32) dM0_17 rfl ?_
  refine K.putF dM0_18 (wd162 hw) F26 E23 (Or.inl (wd163 hw)) (wd151 hw) (ty := .int) (by decide) rfl rfl ga (fun h28 W29 => ?_)
  have K30 := K22.wr W29 (Or.inl (mg 0 rfl))
  have E31 := E23.wr W29
  have F32 := F24.other W29 (Or.inr (sn32 hw))
  have F33 := F25.other W29 (Or.inr (sn33 hw))
  have F34 := F26.same W29
  have I35 := I27.other W29 (Nat.ne_of_gt lt_a_a9)
  exact K.ret dM0_21 (by decide) (by decide) ⟨rfl, _, ks_a9, g12, K30, ⟨F32, F33, F34⟩, I35⟩
theorem rmCP (l : Launch) (Z : State) (a0 : Array Value) (hw : Hw Z a0) (a b : Addr) (x y : Int32) (h : Heap) (n0 : Nat) (P0 : Fld Z h a "java/math/MutableBigInteger" "intLen" "I" (.int x)) (P1 : Fld Z h b "java/math/MutableBigInteger" "intLen" "I" (.int y)) (P2 : y < x) (P3 : ¬ x < y) : Con l Z ⟨"java/math/MutableBigInteger", "compare", "(Ljava/math/MutableBigInteger;)I"⟩ jdk_2101_method_15_code 8 (some .int) ⟨0, 0, 0, 0⟩ #[.ref a, .ref b] h n0 (fun vr h' => vr = some (.int 1) ∧ h' = h) := by
  refine Con.of pnCP (fun m_ => efCP m_ a b) (fun E K => ?_)
  refine K.aloadN dCP_0 rfl rfl ?_
  refine K.getF dCP_1 (wd162 hw) P1 ?_
  refine K.istoreN #[oA a, oA b, oI y, oU, oU, oU, oU, oU] dCP_4 rfl ?_
  refine K.aloadN dCP_5 rfl rfl ?_
  refine K.getF dCP_6 (wd162 hw) P0 ?_
  refine K.iloadN dCP_9 rfl ?_
  refine K.ic_ge dCP_10 (fun u => absurd u P3) (fun _ => ?_)
  refine K.aloadN dCP_15 rfl rfl ?_
  refine K.getF dCP_16 (wd162 hw) P0 ?_
  refine K.iloadN dCP_19 rfl ?_
  refine K.ic_le dCP_20 (fun _ => ?_) (fun u => absurd P2 u)
  refine K.iconst (1 : Int32) dCP_23 rfl ?_
  exact K.ireturn dCP_24 (Or.inl rfl) rfl (by decide) (by decide) ⟨rfl, rfl⟩
theorem rmCL (l : Launch) (Z : State) (a0 : Array Value) (hw : Hw Z a0) (a m : Addr) (x y : Int32) (f : Int32 → Value) (h : Heap) (n0 : Nat) (P0 : Exa Z h a "java/math/MutableBigInteger") (P1 : Fld Z h a "java/math/MutableBigInteger" "offset" "I" (.int x)) (P2 : Fld Z h a "java/math/MutableBigInteger" "value" "[I" (.ref m)) (P3 : Fld Z h a "java/math/MutableBigInteger" "intLen" "I" (.int y)) (P4 : Ia Z h m .int 1 f) (P5 : n0 ≤ a) (P6 : n0 ≤ m) (P7 : m ≠ a) : Con l Z ⟨"java/math/MutableBigInteger", "clear", "()V"⟩ jdk_2101_method_13_code 3 none ⟨0, 0, 0, 0⟩ #[.ref a] h n0 (fun vr h' => vr = none ∧ (Keep h h' [a, m] ∧ Fld Z h' a "java/math/MutableBigInteger" "offset" "I" (.int 0) ∧ Fld Z h' a "java/math/MutableBigInteger" "value" "[I" (.ref m) ∧ Fld Z h' a "java/math/MutableBigInteger" "intLen" "I" (.int 0) ∧ Ia Z h' m .int 1 (fun k_ => if k_ = (0 : Int32) then .int 0 else f k_))) := by
  refine Con.of pnCL (fun m_ => efCL m_ a) (fun E K => ?_)
  have K1 : Keep h h [a, m] := Keep.refl _ _
  refine K.aloadN dCL_0 rfl rfl ?_
  refine K.aloadN dCL_1 rfl rfl ?_
  refine K.iconst (0 : Int32) dCL_2 rfl ?_
  refine K.dup_x1 dCL_3 rfl rfl ?_
  refine K.putF dCL_4 (wd162 hw) P3 P0 (Or.inl (wd163 hw)) (wd151 hw) (ty := .int) (by decide) rfl rfl P5 (fun h2 W3 => ?_)
  have K4 := K1.wr W3 (Or.inl (mg 0 rfl))
  have E5 := P0.wr W3
  have F6 := P1.other W3 (Or.inr (sn32 hw))
  have F7 := P2.other W3 (Or.inr (sn33 hw))
  have F8 := P3.same W3
  have I9 := P4.other W3 P7
  refine K.putF dCL_7 (wd158 hw) F6 E5 (Or.inl (wd159 hw)) (wd151 hw) (ty := .int) (by decide) rfl rfl P5 (fun h10 W11 => ?_)
  have K12 := K4.wr W11 (Or.inl (mg 0 rfl))
  have E13 := E5.wr W11
  have F14 := F6.same W11
  have F15 := F7.other W11 (Or.inr (sn28 hw))
  have F16 := F8.other W11 (Or.inr (sn29 hw))
  have I17 := I9.other W11 P7
  refine K.iconst (0 : Int32) dCL_10 rfl ?_
  refine K.istoreN #[oA a, oI (0 : Int32), oU] dCL_11 rfl ?_
  refine K.aloadN dCL_12 rfl rfl ?_
  refine K.getF dCL_13 (wd160 hw) F15 ?_
  refine K.arraylength dCL_16 I17 ?_
  refine K.istoreN #[oA a, oI (0 : Int32), oI (1 : Int32)] dCL_17 rfl ?_
  refine K.iloadN dCL_18 rfl ?_
  refine K.iloadN dCL_19 rfl ?_
  refine K.ic_ge dCL_20 (fun _ => ?_) (fun u => absurd (by decide) u)
  refine K.aloadN dCL_23 rfl rfl ?_
  refine K.getF dCL_24 (wd160 hw) F15 ?_
  refine K.iloadN dCL_27 rfl ?_
  refine K.iconst (0 : Int32) dCL_28 rfl ?_
  refine K.iastore dCL_29 I17 (by decide) (by decide) P6 (fun h18 W19 A20 => ?_)
  have K21 := K12.wr W19 (Or.inl (mg 1 rfl))
  have E22 := E13.wr W19
  have F23 := F14.other W19 (Or.inl (Ne.symm P7))
  have F24 := F15.other W19 (Or.inl (Ne.symm P7))
  have F25 := F16.other W19 (Or.inl (Ne.symm P7))
  refine K.iinc ((1 : Int32)) #[oA a, oI (1 : Int32), oI (1 : Int32)] dCL_30 rfl rfl rfl ?_
  refine K.goto dCL_33 ?_
  refine K.iloadN dCL_18 rfl ?_
  refine K.iloadN dCL_19 rfl ?_
  refine K.ic_ge dCL_20 (fun u => absurd u (by decide)) (fun _ => ?_)
  exact K.ret dCL_36 (by decide) (by decide) ⟨rfl, K21, F23, F24, F25, A20⟩
theorem rmNM (l : Launch) (Z : State) (a0 : Array Value) (hw : Hw Z a0) (a m : Addr) (k : Nat) (g : Nat → Int32) (h : Heap) (n0 : Nat) (PE : Exa Z h a "java/math/MutableBigInteger") (P1 : Fld Z h a "java/math/MutableBigInteger" "offset" "I" (.int 0)) (P2 : Fld Z h a "java/math/MutableBigInteger" "value" "[I" (.ref m)) (P3 : Fld Z h a "java/math/MutableBigInteger" "intLen" "I" (.int (Int32.ofNat k))) (PA : Ia Z h m .int (Int32.ofNat k) (intF g)) (ga : n0 ≤ a) (hma : m ≠ a) (hk : k ≤ 4) (hk2 : 2 ≤ k) (hg : ¬ g 0 = 0 ∨ (¬ g 1 = 0 ∧ 3 ≤ k)) : Con l Z ⟨"java/math/MutableBigInteger", "normalize", "()V"⟩ jdk_2101_method_21_code 4 none ⟨0, 0, 0, 0⟩ #[.ref a] h n0 (fun vr h' => vr = none ∧ (Keep h h' [a] ∧ ∃ i : Nat, i ≤ 1 ∧ i + 2 ≤ k ∧ (Fld Z h' a "java/math/MutableBigInteger" "offset" "I" (.int (Int32.ofNat i)) ∧ Fld Z h' a "java/math/MutableBigInteger" "value" "[I" (.ref m) ∧ Fld Z h' a "java/math/MutableBigInteger" "intLen" "I" (.int (Int32.ofNat (k - i)))))) := by
  refine Con.of pnNM (fun m_ => efNM m_ a) (fun E K => ?_)
  have K1 : Keep h h [a] := Keep.refl _ _
  refine K.aloadN dNM_0 rfl rfl ?_
  refine K.getF dNM_1 (wd162 hw) P3 ?_
  refine K.if_ne dNM_4 (fun u => absurd u (fun q => absurd (own_inj (j := 0) (by omega) (by decide) q) (by omega))) (fun _ => ?_)
  refine K.aloadN dNM_13 rfl rfl ?_
  refine K.getF dNM_14 (wd158 hw) P1 ?_
  refine K.istoreN #[oA a, oI (0 : Int32), oU, oU] dNM_17 rfl ?_
  refine K.aloadN dNM_18 rfl rfl ?_
  refine K.getF dNM_19 (wd160 hw) P2 ?_
  refine K.iloadN dNM_22 rfl ?_
  refine K.iaload (v := .int (g 0)) dNM_23 PA (by decide) ((own_lt (i := 0) (by decide) (by omega)).mpr (by omega)) rfl ?_
  refine K.if_eq dNM_24 (fun hc2 => ?_) (fun hc2 => ?_)
  · have hg1 := hg.resolve_left (fun q => q hc2)
    refine K.iloadN dNM_28 rfl ?_
    refine K.aloadN dNM_29 rfl rfl ?_
    refine K.getF dNM_30 (wd162 hw) P3 ?_
    refine K.iadd dNM_33 ?_
    rw [Int32.zero_add]
    refine K.istoreN #[oA a, oI (0 : Int32), oI (Int32.ofNat k), oU] dNM_34 rfl ?_
    refine K.iinc ((1 : Int32)) #[oA a, oI (1 : Int32), oI (Int32.ofNat k), oU] dNM_35 rfl rfl rfl ?_
    refine K.iloadN dNM_38 rfl ?_
    refine K.iloadN dNM_39 rfl ?_
    refine K.ic_ge dNM_40 (fun _ => ?_) (fun u => absurd ((own_lt (i := 1) (by decide) (by omega)).mpr (by omega)) u)
    refine K.aloadN dNM_43 rfl rfl ?_
    refine K.getF dNM_44 (wd160 hw) P2 ?_
    refine K.iloadN dNM_47 rfl ?_
    refine K.iaload (v := .int (g 1)) dNM_48 PA (by decide) ((own_lt (i := 1) (by decide) (by omega)).mpr (by omega)) rfl ?_
    refine K.if_eq dNM_49 (fun u => absurd u hg1.1) (fun _ => ?_)
    refine K.iloadN dNM_52 rfl ?_
    refine K.aloadN dNM_53 rfl rfl ?_
    refine K.getF dNM_54 (wd158 hw) P1 ?_
    refine K.isub dNM_57 ?_
    show Wk E h 0 0 58 #[oA a, oI (1 : Int32), oI (Int32.ofNat k), oU] [.int 1]
    refine K.istoreN #[oA a, oI (1 : Int32), oI (Int32.ofNat k), oI (1 : Int32)] dNM_58 rfl ?_
    refine K.aloadN dNM_59 rfl rfl ?_
    refine K.dup dNM_60 rfl ?_
    refine K.getF dNM_61 (wd162 hw) P3 ?_
    refine K.iloadN dNM_64 rfl ?_
    refine K.isub dNM_65 ?_
    rw [own_ks (by omega)]
    refine K.putF dNM_66 (wd162 hw) P3 PE (Or.inl (wd163 hw)) (wd151 hw) (ty := .int) (by decide) rfl rfl ga (fun h3 W4 => ?_)
    have K5 := K1.wr W4 (Or.inl (mg 0 rfl))
    have E6 := PE.wr W4
    have F7 := P1.other W4 (Or.inr (sn32 hw))
    have F8 := P2.other W4 (Or.inr (sn33 hw))
    have F9 := P3.same W4
    have I10 := PA.other W4 hma
    refine K.aloadN dNM_69 rfl rfl ?_
    refine K.aloadN dNM_70 rfl rfl ?_
    refine K.getF dNM_71 (wd162 hw) F9 ?_
    refine K.if_ne dNM_74 (fun u => absurd u (fun q => absurd (own_inj (j := 0) (by omega) (by decide) q) (by omega))) (fun _ => ?_)
    refine K.aloadN dNM_81 rfl rfl ?_
    refine K.getF dNM_82 (wd158 hw) F7 ?_
    refine K.iloadN dNM_85 rfl ?_
    refine K.iadd dNM_86 ?_
    show Wk E h3 0 0 87 #[oA a, oI (1 : Int32), oI (Int32.ofNat k), oI (1 : Int32)] [.int 1, .ref a]
    refine K.putF dNM_87 (wd158 hw) F7 E6 (Or.inl (wd159 hw)) (wd151 hw) (ty := .int) (by decide) rfl rfl ga (fun h11 W12 => ?_)
    have K13 := K5.wr W12 (Or.inl (mg 0 rfl))
    have E14 := E6.wr W12
    have F15 := F7.same W12
    have F16 := F8.other W12 (Or.inr (sn28 hw))
    have F17 := F9.other W12 (Or.inr (sn29 hw))
    have I18 := I10.other W12 hma
    exact K.ret dNM_90 (by decide) (by decide) ⟨rfl, K13, 1, by omega, by omega, ⟨F15, F16, F17⟩⟩
  · exact K.ret dNM_27 (by decide) (by decide) ⟨rfl, K1, 0, by omega, by omega, ⟨P1, P2, P3⟩⟩
theorem rmMW (l : Launch) (Z : State) (a0 : Array Value) (hw : Hw Z a0) (r q a : Addr) (gq ga : Nat → Int32) (x : Int32) (h : Heap) (n0 : Nat) (A1 : Ia Z h q .int (Int32.ofNat 5) (intF gq)) (A2 : Ia Z h a .int (Int32.ofNat 2) (intF ga)) : Con l Z ⟨"java/math/MutableBigInteger", "mulsubBorrow", "([I[IIII)I"⟩ jdk_2101_method_40_code 15 (some .int) ⟨0, 0, 0, 0⟩ #[.ref r, .ref q, .ref a, .int x, .int 2, .int 2] h n0 (fun vr h' => ∃ z, vr = some (.int z) ∧ (h' = h ∧ True)) := by
  refine Con.of pnMW (fun m_ => efMW m_ r q a x (2 : Int32) (2 : Int32)) (fun E K => ?_)
  refine K.iloadN dMW_0 rfl ?_
  refine K.i2l dMW_1 ?_
  refine K.ldc2J dMW_2 (wd187 hw) ?_
  refine K.land dMW_5 ?_
  refine K.lstore #[oA r, oA q, oA a, oI x, oI (2 : Int32), oI (2 : Int32), oJ (x.toInt64 &&& (4294967295 : Int64)), oT, oU, oU, oU, oU, oU, oU, oU] dMW_6 rfl ?_
  refine K.lconst (0 : Int64) dMW_8 rfl ?_
  refine K.lstore #[oA r, oA q, oA a, oI x, oI (2 : Int32), oI (2 : Int32), oJ (x.toInt64 &&& (4294967295 : Int64)), oT, oJ (0 : Int64), oT, oU, oU, oU, oU, oU] dMW_9 rfl ?_
  refine K.iload dMW_11 rfl ?_
  refine K.iload dMW_13 rfl ?_
  refine K.iadd dMW_15 ?_
  show Wk E h 0 0 16 #[oA r, oA q, oA a, oI x, oI (2 : Int32), oI (2 : Int32), oJ (x.toInt64 &&& (4294967295 : Int64)), oT, oJ (0 : Int64), oT, oU, oU, oU, oU, oU] [.int 4]
  refine K.istore #[oA r, oA q, oA a, oI x, oI (2 : Int32), oI (4 : Int32), oJ (x.toInt64 &&& (4294967295 : Int64)), oT, oJ (0 : Int64), oT, oU, oU, oU, oU, oU] dMW_16 rfl ?_
  refine K.iload dMW_18 rfl ?_
  refine K.iconst (1 : Int32) dMW_20 rfl ?_
  refine K.isub dMW_21 ?_
  show Wk E h 0 0 22 #[oA r, oA q, oA a, oI x, oI (2 : Int32), oI (4 : Int32), oJ (x.toInt64 &&& (4294967295 : Int64)), oT, oJ (0 : Int64), oT, oU, oU, oU, oU, oU] [.int 1]
  refine K.istore #[oA r, oA q, oA a, oI x, oI (2 : Int32), oI (4 : Int32), oJ (x.toInt64 &&& (4294967295 : Int64)), oT, oJ (0 : Int64), oT, oI (1 : Int32), oU, oU, oU, oU] dMW_22 rfl ?_
  refine K.iload dMW_24 rfl ?_
  refine K.if_lt dMW_26 (fun u => absurd u (by decide)) (fun _ => ?_)
  refine K.aloadN dMW_29 rfl rfl ?_
  refine K.iload dMW_30 rfl ?_
  refine K.iaload (v := .int (ga 1)) dMW_32 A2 (by decide) (by decide) rfl ?_
  refine K.i2l dMW_33 ?_
  refine K.ldc2J dMW_34 (wd187 hw) ?_
  refine K.land dMW_37 ?_
  refine K.lload dMW_38 rfl ?_
  refine K.lmul dMW_40 ?_
  refine K.lload dMW_41 rfl ?_
  refine K.ladd dMW_43 ?_
  obtain ⟨p0, ep0⟩ : ∃ x_ : Int64, x_ = ((((ga 1).toInt64) &&& (4294967295 : Int64)) * (x.toInt64 &&& (4294967295 : Int64))) + (0 : Int64) := ⟨_, rfl⟩
  rw [← ep0]
  refine K.lstore #[oA r, oA q, oA a, oI x, oI (2 : Int32), oI (4 : Int32), oJ (x.toInt64 &&& (4294967295 : Int64)), oT, oJ (0 : Int64), oT, oI (1 : Int32), oJ p0, oT, oU, oU] dMW_44 rfl ?_
  refine K.aloadN dMW_46 rfl rfl ?_
  refine K.iload dMW_47 rfl ?_
  refine K.iinc ((3 : Int32)) #[oA r, oA q, oA a, oI x, oI (2 : Int32), oI (3 : Int32), oJ (x.toInt64 &&& (4294967295 : Int64)), oT, oJ (0 : Int64), oT, oI (1 : Int32), oJ p0, oT, oU, oU] dMW_49 rfl rfl rfl ?_
  refine K.iaload (v := .int (gq 4)) dMW_52 A1 (by decide) (by decide) rfl ?_
  refine K.i2l dMW_53 ?_
  refine K.lload dMW_54 rfl ?_
  refine K.lsub dMW_56 ?_
  obtain ⟨f0, ef0⟩ : ∃ x_ : Int64, x_ = ((gq 4).toInt64) - p0 := ⟨_, rfl⟩
  rw [← ef0]
  refine K.lstore #[oA r, oA q, oA a, oI x, oI (2 : Int32), oI (3 : Int32), oJ (x.toInt64 &&& (4294967295 : Int64)), oT, oJ (0 : Int64), oT, oI (1 : Int32), oJ p0, oT, oJ f0, oT] dMW_57 rfl ?_
  refine K.lload dMW_59 rfl ?_
  refine K.bipush (32 : Int32) dMW_61 rfl ?_
  refine K.lushr dMW_63 ?_
  refine K.lload dMW_64 rfl ?_
  refine K.ldc2J dMW_66 (wd187 hw) ?_
  refine K.land dMW_69 ?_
  refine K.lload dMW_70 rfl ?_
  refine K.l2i dMW_72 ?_
  refine K.iconst (-1 : Int32) dMW_73 rfl ?_
  refine K.ixor dMW_74 ?_
  refine K.i2l dMW_75 ?_
  refine K.ldc2J dMW_76 (wd187 hw) ?_
  refine K.land dMW_79 ?_
  refine cut (P := ∀ z1 : Int32, z1 = (if (((p0.toInt32 ^^^ (-1 : Int32)).toInt64) &&& (4294967295 : Int64)) < (f0 &&& (4294967295 : Int64)) then 1 else 0) → Wk E h 0 0 89 #[oA r, oA q, oA a, oI x, oI (2 : Int32), oI (3 : Int32), oJ (x.toInt64 &&& (4294967295 : Int64)), oT, oJ (0 : Int64), oT, oI (1 : Int32), oJ p0, oT, oJ f0, oT] [.int z1, .long ((p0.toUInt64 >>> ((32 : Int32) &&& 63).toInt64.toUInt64).toInt64)]) (fun J2 => ?_) ?_
  · refine K.lc_le dMW_80 dMW_81 (fun hc3 => ?_) (fun hc3 => ?_)
    · refine K.iconst (1 : Int32) dMW_84 rfl ?_
      refine K.goto dMW_85 ?_
      exact J2 _ (if_pos hc3).symm
    · refine K.iconst (0 : Int32) dMW_88 rfl ?_
      exact J2 _ (if_neg hc3).symm
  intro z1 hz1
  refine K.i2l dMW_89 ?_
  refine K.ladd dMW_90 ?_
  obtain ⟨c0, ec0⟩ : ∃ x_ : Int64, x_ = ((p0.toUInt64 >>> ((32 : Int32) &&& 63).toInt64.toUInt64).toInt64) + z1.toInt64 := ⟨_, rfl⟩
  rw [← ec0]
  refine K.lstore #[oA r, oA q, oA a, oI x, oI (2 : Int32), oI (3 : Int32), oJ (x.toInt64 &&& (4294967295 : Int64)), oT, oJ c0, oT, oI (1 : Int32), oJ p0, oT, oJ f0, oT] dMW_91 rfl ?_
  refine K.iinc ((0 : Int32)) #[oA r, oA q, oA a, oI x, oI (2 : Int32), oI (3 : Int32), oJ (x.toInt64 &&& (4294967295 : Int64)), oT, oJ c0, oT, oI (0 : Int32), oJ p0, oT, oJ f0, oT] dMW_93 rfl rfl rfl ?_
  refine K.goto dMW_96 ?_
  refine K.iload dMW_24 rfl ?_
  refine K.if_lt dMW_26 (fun u => absurd u (by decide)) (fun _ => ?_)
  refine K.aloadN dMW_29 rfl rfl ?_
  refine K.iload dMW_30 rfl ?_
  refine K.iaload (v := .int (ga 0)) dMW_32 A2 (by decide) (by decide) rfl ?_
  refine K.i2l dMW_33 ?_
  refine K.ldc2J dMW_34 (wd187 hw) ?_
  refine K.land dMW_37 ?_
  refine K.lload dMW_38 rfl ?_
  refine K.lmul dMW_40 ?_
  refine K.lload dMW_41 rfl ?_
  refine K.ladd dMW_43 ?_
  obtain ⟨p1, ep1⟩ : ∃ x_ : Int64, x_ = ((((ga 0).toInt64) &&& (4294967295 : Int64)) * (x.toInt64 &&& (4294967295 : Int64))) + c0 := ⟨_, rfl⟩
  rw [← ep1]
  refine K.lstore #[oA r, oA q, oA a, oI x, oI (2 : Int32), oI (3 : Int32), oJ (x.toInt64 &&& (4294967295 : Int64)), oT, oJ c0, oT, oI (0 : Int32), oJ p1, oT, oJ f0, oT] dMW_44 rfl ?_
  refine K.aloadN dMW_46 rfl rfl ?_
  refine K.iload dMW_47 rfl ?_
  refine K.iinc ((2 : Int32)) #[oA r, oA q, oA a, oI x, oI (2 : Int32), oI (2 : Int32), oJ (x.toInt64 &&& (4294967295 : Int64)), oT, oJ c0, oT, oI (0 : Int32), oJ p1, oT, oJ f0, oT] dMW_49 rfl rfl rfl ?_
  refine K.iaload (v := .int (gq 3)) dMW_52 A1 (by decide) (by decide) rfl ?_
  refine K.i2l dMW_53 ?_
  refine K.lload dMW_54 rfl ?_
  refine K.lsub dMW_56 ?_
  obtain ⟨f1, ef1⟩ : ∃ x_ : Int64, x_ = ((gq 3).toInt64) - p1 := ⟨_, rfl⟩
  rw [← ef1]
  refine K.lstore #[oA r, oA q, oA a, oI x, oI (2 : Int32), oI (2 : Int32), oJ (x.toInt64 &&& (4294967295 : Int64)), oT, oJ c0, oT, oI (0 : Int32), oJ p1, oT, oJ f1, oT] dMW_57 rfl ?_
  refine K.lload dMW_59 rfl ?_
  refine K.bipush (32 : Int32) dMW_61 rfl ?_
  refine K.lushr dMW_63 ?_
  refine K.lload dMW_64 rfl ?_
  refine K.ldc2J dMW_66 (wd187 hw) ?_
  refine K.land dMW_69 ?_
  refine K.lload dMW_70 rfl ?_
  refine K.l2i dMW_72 ?_
  refine K.iconst (-1 : Int32) dMW_73 rfl ?_
  refine K.ixor dMW_74 ?_
  refine K.i2l dMW_75 ?_
  refine K.ldc2J dMW_76 (wd187 hw) ?_
  refine K.land dMW_79 ?_
  refine cut (P := ∀ z4 : Int32, z4 = (if (((p1.toInt32 ^^^ (-1 : Int32)).toInt64) &&& (4294967295 : Int64)) < (f1 &&& (4294967295 : Int64)) then 1 else 0) → Wk E h 0 0 89 #[oA r, oA q, oA a, oI x, oI (2 : Int32), oI (2 : Int32), oJ (x.toInt64 &&& (4294967295 : Int64)), oT, oJ c0, oT, oI (0 : Int32), oJ p1, oT, oJ f1, oT] [.int z4, .long ((p1.toUInt64 >>> ((32 : Int32) &&& 63).toInt64.toUInt64).toInt64)]) (fun J5 => ?_) ?_
  · refine K.lc_le dMW_80 dMW_81 (fun hc6 => ?_) (fun hc6 => ?_)
    · refine K.iconst (1 : Int32) dMW_84 rfl ?_
      refine K.goto dMW_85 ?_
      exact J5 _ (if_pos hc6).symm
    · refine K.iconst (0 : Int32) dMW_88 rfl ?_
      exact J5 _ (if_neg hc6).symm
  intro z4 hz4
  refine K.i2l dMW_89 ?_
  refine K.ladd dMW_90 ?_
  obtain ⟨c1, ec1⟩ : ∃ x_ : Int64, x_ = ((p1.toUInt64 >>> ((32 : Int32) &&& 63).toInt64.toUInt64).toInt64) + z4.toInt64 := ⟨_, rfl⟩
  rw [← ec1]
  refine K.lstore #[oA r, oA q, oA a, oI x, oI (2 : Int32), oI (2 : Int32), oJ (x.toInt64 &&& (4294967295 : Int64)), oT, oJ c1, oT, oI (0 : Int32), oJ p1, oT, oJ f1, oT] dMW_91 rfl ?_
  refine K.iinc ((-1 : Int32)) #[oA r, oA q, oA a, oI x, oI (2 : Int32), oI (2 : Int32), oJ (x.toInt64 &&& (4294967295 : Int64)), oT, oJ c1, oT, oI (-1 : Int32), oJ p1, oT, oJ f1, oT] dMW_93 rfl rfl rfl ?_
  refine K.goto dMW_96 ?_
  refine K.iload dMW_24 rfl ?_
  refine K.if_lt dMW_26 (fun _ => ?_) (fun u => absurd (by decide) u)
  refine K.lload dMW_99 rfl ?_
  refine K.l2i dMW_101 ?_
  exact K.ireturn dMW_102 (Or.inl rfl) rfl (by decide) (by decide) ⟨_, rfl, rfl, trivial⟩
theorem rmGI (l : Launch) (Z : State) (a0 : Array Value) (hw : Hw Z a0) (a m : Addr) (i k : Nat) (g : Nat → Int32) (h : Heap) (n0 : Nat) (P1 : Fld Z h a "java/math/BigInteger" "signum" "I" (.int 1)) (P2 : Fld Z h a "java/math/BigInteger" "mag" "[I" (.ref m)) (PA : Ia Z h m .int (Int32.ofNat k) (intF g)) (hi : i ≤ 1) (hk : 2 ≤ k) (hk8 : k ≤ 8) : Con l Z ⟨"java/math/BigInteger", "getInt", "(I)I"⟩ jdk_2097_method_148_code 3 (some .int) ⟨0, 0, 0, 0⟩ #[.ref a, .int (Int32.ofNat i)] h n0 (fun vr h' => ∃ z, vr = some (.int z) ∧ (h' = h ∧ True)) := by
  refine Con.of pnGI (fun m_ => efGI m_ a (Int32.ofNat i)) (fun E K => ?_)
  rcases (show i = 0 ∨ i = 1 by omega) with rfl | rfl
  · refine K.iloadN dGI_0 rfl ?_
    refine K.if_ge dGI_1 (fun u => absurd u (by decide)) (fun _ => ?_)
    refine K.iloadN dGI_6 rfl ?_
    refine K.aloadN dGI_7 rfl rfl ?_
    refine K.getF dGI_8 (wd104 hw) P2 ?_
    refine K.arraylength dGI_11 PA ?_
    refine K.ic_lt dGI_12 (fun _ => ?_) (fun u => absurd ((own_lt (by decide) (by omega)).mpr (by omega)) u)
    refine K.aloadN dGI_20 rfl rfl ?_
    refine K.getF dGI_21 (wd104 hw) P2 ?_
    refine K.aloadN dGI_24 rfl rfl ?_
    refine K.getF dGI_25 (wd104 hw) P2 ?_
    refine K.arraylength dGI_28 PA ?_
    refine K.iloadN dGI_29 rfl ?_
    refine K.isub dGI_30 ?_
    refine K.iconst (1 : Int32) dGI_31 rfl ?_
    refine K.isub dGI_32 ?_
    rw [own_kd0 (by omega)]
    refine K.iaload (v := .int (g (k - 1))) dGI_33 PA (own_nn (by omega)) ((own_lt (by omega) (by omega)).mpr (by omega)) (own_ri g (by omega)) ?_
    refine K.istoreN #[oA a, oI (Int32.ofNat 0), oI (g (k - 1))] dGI_34 rfl ?_
    refine K.aloadN dGI_35 rfl rfl ?_
    refine K.getF dGI_36 (wd100 hw) P1 ?_
    refine K.if_lt dGI_39 (fun u => absurd u (by decide)) (fun _ => ?_)
    refine K.iloadN dGI_42 rfl ?_
    refine K.goto dGI_43 ?_
    exact K.ireturn dGI_62 (Or.inl rfl) rfl (by decide) (by decide) ⟨_, rfl, rfl, trivial⟩
  · refine K.iloadN dGI_0 rfl ?_
    refine K.if_ge dGI_1 (fun u => absurd u (by decide)) (fun _ => ?_)
    refine K.iloadN dGI_6 rfl ?_
    refine K.aloadN dGI_7 rfl rfl ?_
    refine K.getF dGI_8 (wd104 hw) P2 ?_
    refine K.arraylength dGI_11 PA ?_
    refine K.ic_lt dGI_12 (fun _ => ?_) (fun u => absurd ((own_lt (by decide) (by omega)).mpr (by omega)) u)
    refine K.aloadN dGI_20 rfl rfl ?_
    refine K.getF dGI_21 (wd104 hw) P2 ?_
    refine K.aloadN dGI_24 rfl rfl ?_
    refine K.getF dGI_25 (wd104 hw) P2 ?_
    refine K.arraylength dGI_28 PA ?_
    refine K.iloadN dGI_29 rfl ?_
    refine K.isub dGI_30 ?_
    refine K.iconst (1 : Int32) dGI_31 rfl ?_
    refine K.isub dGI_32 ?_
    rw [own_kd1 (by omega)]
    refine K.iaload (v := .int (g (k - 2))) dGI_33 PA (own_nn (by omega)) ((own_lt (by omega) (by omega)).mpr (by omega)) (own_ri g (by omega)) ?_
    refine K.istoreN #[oA a, oI (Int32.ofNat 1), oI (g (k - 2))] dGI_34 rfl ?_
    refine K.aloadN dGI_35 rfl rfl ?_
    refine K.getF dGI_36 (wd100 hw) P1 ?_
    refine K.if_lt dGI_39 (fun u => absurd u (by decide)) (fun _ => ?_)
    refine K.iloadN dGI_42 rfl ?_
    refine K.goto dGI_43 ?_
    exact K.ireturn dGI_62 (Or.inl rfl) rfl (by decide) (by decide) ⟨_, rfl, rfl, trivial⟩
theorem rmLV (l : Launch) (Z : State) (a0 : Array Value) (hw : Hw Z a0) (a m : Addr) (k : Nat) (g : Nat → Int32) (h : Heap) (n0 : Nat) (PE : Exa Z h a "java/math/BigInteger") (P1 : Fld Z h a "java/math/BigInteger" "signum" "I" (.int 1)) (P2 : Fld Z h a "java/math/BigInteger" "mag" "[I" (.ref m)) (PA : Ia Z h m .int (Int32.ofNat k) (intF g)) (hk : 2 ≤ k) (hk8 : k ≤ 8) : Con l Z ⟨"java/math/BigInteger", "longValue", "()J"⟩ jdk_2097_method_136_code 4 (some .long) ⟨1, 0, 0, 16⟩ #[.ref a] h n0 (fun vr h' => ∃ z, vr = some (.long z) ∧ (h' = h ∧ True)) := by
  refine Con.of pnLV (fun m_ => efLV m_ a) (fun E K => ?_)
  refine K.lconst (0 : Int64) dLV_0 rfl ?_
  refine K.lstoreN #[oA a, oJ (0 : Int64), oT, oU] dLV_1 rfl ?_
  refine K.iconst (1 : Int32) dLV_2 rfl ?_
  refine K.istoreN #[oA a, oJ (0 : Int64), oT, oI (1 : Int32)] dLV_3 rfl ?_
  refine K.iloadN dLV_4 rfl ?_
  refine K.if_lt dLV_5 (fun u => absurd u (by decide)) (fun _ => ?_)
  refine K.lloadN dLV_8 rfl ?_
  refine K.bipush (32 : Int32) dLV_9 rfl ?_
  refine K.lshl dLV_11 ?_
  refine K.aloadN dLV_12 rfl rfl ?_
  refine K.iloadN dLV_13 rfl ?_
  refine K.callP (a := a) [.int 1] [.long ((0 : Int64) <<< ((32 : Int32) &&& 63).toInt64)] 2 0 0 dLV_14 (wd228 hw) (wd230 hw) (wd231 hw) (wd229 hw) (wd94 hw) (wd232 hw) (by decide) (rmGI l Z a0 hw a m 1 k g h n0 P1 P2 PA (by decide) hk hk8) PE rfl (lenOf pd_6 rfl) rfl (Nat.le_of_eq rfl) (by decide) (by decide) rfl rfl (by decide) (by decide) (goIs fun z1 q2 => ?_)
  refine K.i2l dLV_17 ?_
  refine K.ldc2J dLV_18 (wd139 hw) ?_
  refine K.land dLV_21 ?_
  refine K.ladd dLV_22 ?_
  obtain ⟨v1, ev1⟩ : ∃ x_ : Int64, x_ = ((0 : Int64) <<< ((32 : Int32) &&& 63).toInt64) + (z1.toInt64 &&& (4294967295 : Int64)) := ⟨_, rfl⟩
  rw [← ev1]
  refine K.lstoreN #[oA a, oJ v1, oT, oI (1 : Int32)] dLV_23 rfl ?_
  refine K.iinc ((0 : Int32)) #[oA a, oJ v1, oT, oI (0 : Int32)] dLV_24 rfl rfl rfl ?_
  refine K.goto dLV_27 ?_
  refine K.iloadN dLV_4 rfl ?_
  refine K.if_lt dLV_5 (fun u => absurd u (by decide)) (fun _ => ?_)
  refine K.lloadN dLV_8 rfl ?_
  refine K.bipush (32 : Int32) dLV_9 rfl ?_
  refine K.lshl dLV_11 ?_
  refine K.aloadN dLV_12 rfl rfl ?_
  refine K.iloadN dLV_13 rfl ?_
  refine K.callP (a := a) [.int 0] [.long (v1 <<< ((32 : Int32) &&& 63).toInt64)] 2 0 0 dLV_14 (wd228 hw) (wd230 hw) (wd231 hw) (wd229 hw) (wd94 hw) (wd232 hw) (by decide) (rmGI l Z a0 hw a m 0 k g h n0 P1 P2 PA (by decide) hk hk8) PE rfl (lenOf pd_6 rfl) rfl (Nat.le_of_eq rfl) (by decide) (by decide) rfl rfl (by decide) (by decide) (goIs fun z3 q4 => ?_)
  refine K.i2l dLV_17 ?_
  refine K.ldc2J dLV_18 (wd139 hw) ?_
  refine K.land dLV_21 ?_
  refine K.ladd dLV_22 ?_
  obtain ⟨v0, ev0⟩ : ∃ x_ : Int64, x_ = (v1 <<< ((32 : Int32) &&& 63).toInt64) + (z3.toInt64 &&& (4294967295 : Int64)) := ⟨_, rfl⟩
  rw [← ev0]
  refine K.lstoreN #[oA a, oJ v0, oT, oI (0 : Int32)] dLV_23 rfl ?_
  refine K.iinc ((-1 : Int32)) #[oA a, oJ v0, oT, oI (-1 : Int32)] dLV_24 rfl rfl rfl ?_
  refine K.goto dLV_27 ?_
  refine K.iloadN dLV_4 rfl ?_
  refine K.if_lt dLV_5 (fun _ => ?_) (fun u => absurd (by decide) u)
  refine K.lloadN dLV_30 rfl ?_
  exact K.lreturn dLV_31 (by decide) (by decide) ⟨_, rfl, rfl, trivial⟩
theorem rmFI (l : Launch) (Z : State) (a0 : Array Value) (hw : Hw Z a0) (a : Addr) (k : Nat) (f : Int32 → Value) (h : Heap) (n0 : Nat) (PA : Ia Z h a .int (Int32.ofNat k) f) (ga : n0 ≤ a) (hk : k ≤ 4) : Con l Z ⟨"java/util/Arrays", "fill", "([II)V"⟩ jdk_65_method_103_code 4 none ⟨0, 0, 0, 0⟩ #[.ref a, .int 0] h n0 (fun vr h' => vr = none ∧ Keep h h' [a]) := by
  refine Con.of pnFI (fun m_ => efFI m_ a (0 : Int32)) (fun E K => ?_)
  have K1 : Keep h h [a] := Keep.refl _ _
  refine K.iconst (0 : Int32) dFI_0 rfl ?_
  refine K.istoreN #[oA a, oI (0 : Int32), oI (0 : Int32), oU] dFI_1 rfl ?_
  refine K.aloadN dFI_2 rfl rfl ?_
  refine K.arraylength dFI_3 PA ?_
  refine K.istoreN #[oA a, oI (0 : Int32), oI (0 : Int32), oI (Int32.ofNat k)] dFI_4 rfl ?_
  have LOOP : ∀ (d i : Nat) (h1 : Heap) (f : Int32 → Value), k ≤ i + d → i ≤ k → Ia Z h1 a .int (Int32.ofNat k) f → Keep h h1 [a] → Wk E h1 0 0 5 #[oA a, oI (0 : Int32), oI (Int32.ofNat i), oI (Int32.ofNat k)] [] := by
    intro d
    induction d with
    | zero =>
      intro i h1 f hd hi PA1 KK
      refine K.iloadN dFI_5 rfl ?_
      refine K.iloadN dFI_6 rfl ?_
      refine K.ic_ge dFI_7 (fun u => absurd u (fun q => absurd ((own_lt (by omega) (by omega)).mp q) (by omega))) (fun _ => ?_)
      exact K.ret dFI_20 (by decide) (by decide) ⟨rfl, KK⟩
    | succ d ih =>
      intro i h1 f hd hi PA1 KK
      by_cases hlt : i < k
      · refine K.iloadN dFI_5 rfl ?_
        refine K.iloadN dFI_6 rfl ?_
        refine K.ic_ge dFI_7 (fun _ => ?_) (fun u => absurd ((own_lt (by omega) (by omega)).mpr hlt) u)
        refine K.aloadN dFI_10 rfl rfl ?_
        refine K.iloadN dFI_11 rfl ?_
        refine K.iloadN dFI_12 rfl ?_
        refine K.iastore dFI_13 PA1 (own_nn (by omega)) ((own_lt (by omega) (by omega)).mpr (by omega)) ga (fun h2 W3 A4 => ?_)
        have K5 := KK.wr W3 (Or.inl (mg 0 rfl))
        refine K.iinc (Int32.ofNat (i + 1)) #[oA a, oI (0 : Int32), oI (Int32.ofNat (i + 1)), oI (Int32.ofNat k)] dFI_14 rfl (inc_ofNat i).symm rfl ?_
        refine K.goto dFI_17 ?_
        exact ih (i + 1) _ _ (by omega) (by omega) A4 K5
      · refine K.iloadN dFI_5 rfl ?_
        refine K.iloadN dFI_6 rfl ?_
        refine K.ic_ge dFI_7 (fun u => absurd u (fun q => absurd ((own_lt (by omega) (by omega)).mp q) (by omega))) (fun _ => ?_)
        exact K.ret dFI_20 (by decide) (by decide) ⟨rfl, KK⟩
  exact LOOP k 0 _ _ (by omega) (by omega) PA K1
theorem rmCK (l : Launch) (Z : State) (a0 : Array Value) (hw : Hw Z a0) (x y : Int32) (h : Heap) (n0 : Nat) (P0 : ¬ y < x) : Con l Z ⟨"java/util/Arrays", "checkLength", "(II)V"⟩ jdk_65_method_131_code 2 none ⟨0, 0, 0, 0⟩ #[.int x, .int y] h n0 (fun vr h' => vr = none ∧ h' = h) := by
  refine Con.of pnCK (fun m_ => efCK m_ x y) (fun E K => ?_)
  refine K.iloadN dCK_0 rfl ?_
  refine K.iloadN dCK_1 rfl ?_
  refine K.ic_ge dCK_2 (fun u => absurd u P0) (fun _ => ?_)
  exact K.ret dCK_37 (by decide) (by decide) ⟨rfl, rfl⟩
theorem rmCI (l : Launch) (Z : State) (a0 : Array Value) (hw : Hw Z a0) (a : Addr) (k : Nat) (g : Nat → Int32) (h : Heap) (n0 : Nat) (PA : Ia Z h a .int (Int32.ofNat k) (intF g)) (hk2 : 2 ≤ k) (hk : k ≤ 4) : Con l Z ⟨"java/util/Arrays", "copyOfRangeInt", "([III)[I"⟩ jdk_65_method_137_code 5 (some (.array .int)) ⟨1, 1, 4, 18⟩ #[.ref a, .int (Int32.ofNat 1), .int (Int32.ofNat k)] h n0 (fun vr h' => ∃ t, vr = some (.ref t) ∧ (Keep h h' [] ∧ h.size ≤ t ∧ n0 ≤ t ∧ ∃ g', Ia Z h' t .int (Int32.ofNat (k - 1)) (intF g'))) := by
  refine Con.of pnCI (fun m_ => efCI m_ a (Int32.ofNat 1) (Int32.ofNat k)) (fun E K => ?_)
  have K1 : Keep h h [] := Keep.refl _ _
  have hxy : ¬ Int32.ofNat k < Int32.ofNat 1 := fun q => absurd ((own_lt (by omega) (by omega)).mp q) (by omega)
  refine K.iloadN dCI_0 rfl ?_
  refine K.iloadN dCI_1 rfl ?_
  refine K.callS [.int (Int32.ofNat 1), .int (Int32.ofNat k)] [] 0 0 0 dCI_2 (wd212 hw) (wd213 hw) (wd207 hw) (wd214 hw) (by decide) (rmCK l Z a0 hw (Int32.ofNat 1) (Int32.ofNat k) h n0 hxy) rfl (lenOf pd_7 rfl) rfl (Nat.le_of_eq rfl) (by decide) (by decide) rfl rfl (by decide) (by decide) (goN ?_)
  refine K.iloadN dCI_5 rfl ?_
  refine K.iloadN dCI_6 rfl ?_
  refine K.isub dCI_7 ?_
  rw [own_ksl (by omega)]
  refine K.istoreN #[oA a, oI (Int32.ofNat 1), oI (Int32.ofNat k), oI (Int32.ofNat (k - 1)), oU] dCI_8 rfl ?_
  refine K.iloadN dCI_9 rfl ?_
  refine K.newP (ty := .int) (dv := .int 0) 4 1 4 dCI_10 (wd109 hw) rfl rfl (own_nn (by omega)) (by rw [clamp_of rfl (by omega)]; omega) (by decide) rfl rfl (by decide) (by decide) (fun h3 a2 ha4 g5 X6 A7 => ?_)
  have ks_a2 := ha_ge K1.1 ha4
  have lt_a_a2 : a < a2 := by rw [ha4]; exact PA.lt
  have K8 := K1.ext X6
  have I9 := PA.ext X6
  refine K.astore #[oA a, oI (Int32.ofNat 1), oI (Int32.ofNat k), oI (Int32.ofNat (k - 1)), oA a2] dCI_12 rfl rfl ?_
  refine K.aloadN dCI_14 rfl rfl ?_
  refine K.iloadN dCI_15 rfl ?_
  refine K.aload dCI_16 rfl rfl ?_
  refine K.iconst (0 : Int32) dCI_18 rfl ?_
  refine K.aloadN dCI_19 rfl rfl ?_
  refine K.arraylength dCI_20 I9 ?_
  refine K.iloadN dCI_21 rfl ?_
  refine K.isub dCI_22 ?_
  rw [own_ksl (by omega)]
  refine K.iloadN dCI_23 rfl ?_
  refine K.callS [.int (Int32.ofNat (k - 1)), .int (Int32.ofNat (k - 1))] [.int 0, .ref a2, .int (Int32.ofNat 1), .ref a] 4 1 4 dCI_24 (wd215 hw) (wd216 hw) (wd3 hw) (wd217 hw) (by decide) (rmMN l Z a0 hw (Int32.ofNat (k - 1)) (Int32.ofNat (k - 1)) h3 n0) rfl (lenOf pd_8 rfl) rfl (Nat.le_of_eq rfl) (by decide) (by decide) rfl rfl (by decide) (by decide) (goP ?_)
  rw [own_nis]
  refine K.copyX (sp := 1) 0 dCI_27 (wd218 hw) (wd113 hw) (wd111 hw) (wd112 hw) I9 (intF_int g) A7 zero_int (by omega) (by omega) (by omega) (Nat.le_refl _) g5 rfl (by decide) (Nat.le_of_eq rfl) (by decide) (fun h10 g13 K11 A12 => ?_)
  have K14 := K8.trans K11 (allS (Or.inr ks_a2) all0)
  have I15 := I9.keep K11 (ninS (Nat.ne_of_lt lt_a_a2) nin0)
  refine K.aload dCI_30 rfl rfl ?_
  exact K.areturn dCI_32 rfl rfl rfl (by decide) (by decide) ⟨_, rfl, K14, ks_a2, g5, _, A12⟩
theorem rmCR (l : Launch) (Z : State) (a0 : Array Value) (hw : Hw Z a0) (a : Addr) (k : Nat) (g : Nat → Int32) (h : Heap) (n0 : Nat) (PA : Ia Z h a .int (Int32.ofNat k) (intF g)) (hk2 : 2 ≤ k) (hk : k ≤ 4) : Con l Z ⟨"java/util/Arrays", "copyOfRange", "([III)[I"⟩ jdk_65_method_136_code 3 (some (.array .int)) ⟨2, 1, 4, 34⟩ #[.ref a, .int (Int32.ofNat 1), .int (Int32.ofNat k)] h n0 (fun vr h' => ∃ t, vr = some (.ref t) ∧ (Keep h h' [] ∧ h.size ≤ t ∧ n0 ≤ t ∧ ∃ g', Ia Z h' t .int (Int32.ofNat (k - 1)) (intF g'))) := by
  refine Con.of pnCR (fun m_ => efCR m_ a (Int32.ofNat 1) (Int32.ofNat k)) (fun E K => ?_)
  have K1 : Keep h h [] := Keep.refl _ _
  refine K.iloadN dCR_0 rfl ?_
  refine K.if_ne dCR_1 (fun u => absurd u (by decide)) (fun _ => ?_)
  refine K.aloadN dCR_10 rfl rfl ?_
  refine K.iloadN dCR_11 rfl ?_
  refine K.iloadN dCR_12 rfl ?_
  refine K.callS [.ref a, .int (Int32.ofNat 1), .int (Int32.ofNat k)] [] 0 1 4 dCR_13 (wd209 hw) (wd210 hw) (wd207 hw) (wd211 hw) (by decide) (rmCI l Z a0 hw a k g h n0 PA (by omega) (by omega)) rfl (lenOf pd_9 rfl) rfl (Nat.le_of_eq rfl) (by decide) (by decide) rfl rfl (by decide) (by decide) (goR fun t2 h3 q4 => ?_)
  obtain ⟨K5, g6, e7, gf8, A9⟩ := q4
  have lt_a_t2 : a < t2 := Nat.lt_of_lt_of_le PA.lt g6
  have ks10 := Nat.le_trans K1.1 g6
  have K11 := K1.trans K5 all0
  have I12 := PA.keep K5 nin0
  exact K.areturn dCR_16 rfl rfl rfl (by decide) (by decide) ⟨_, rfl, K11, ks10, e7, _, A9⟩
theorem rmGM (l : Launch) (Z : State) (a0 : Array Value) (hw : Hw Z a0) (a m : Addr) (i k : Nat) (g : Nat → Int32) (h : Heap) (n0 : Nat) (PE : Exa Z h a "java/math/MutableBigInteger") (P1 : Fld Z h a "java/math/MutableBigInteger" "offset" "I" (.int (Int32.ofNat i))) (P2 : Fld Z h a "java/math/MutableBigInteger" "value" "[I" (.ref m)) (P3 : Fld Z h a "java/math/MutableBigInteger" "intLen" "I" (.int (Int32.ofNat (k - i)))) (PA : Ia Z h m .int (Int32.ofNat k) (intF g)) (ga : n0 ≤ a) (gm : n0 ≤ m) (hma : m ≠ a) (hi : i ≤ 1) (hik : i + 2 ≤ k) (hk : k ≤ 4) : Con l Z ⟨"java/math/MutableBigInteger", "getMagnitudeArray", "()[I"⟩ jdk_2101_method_7_code 2 (some (.array .int)) ⟨3, 1, 4, 48⟩ #[.ref a] h n0 (fun vr h' => ∃ t, vr = some (.ref t) ∧ (Keep h h' [a, m] ∧ (t = m ∨ h.size ≤ t) ∧ n0 ≤ t ∧ ∃ (k' : Nat) (g' : Nat → Int32), 2 ≤ k' ∧ k' ≤ 4 ∧ Ia Z h' t .int (Int32.ofNat k') (intF g'))) := by
  refine Con.of pnGM (fun m_ => efGM m_ a) (fun E K => ?_)
  have K1 : Keep h h [a, m] := Keep.refl _ _
  rcases (show i = 0 ∨ i = 1 by omega) with rfl | rfl
  · refine K.aloadN dGM_0 rfl rfl ?_
    refine K.getF dGM_1 (wd158 hw) P1 ?_
    refine K.if_gt dGM_4 (fun u => absurd u (by decide)) (fun _ => ?_)
    refine K.aloadN dGM_7 rfl rfl ?_
    refine K.getF dGM_8 (wd160 hw) P2 ?_
    refine K.arraylength dGM_11 PA ?_
    refine K.aloadN dGM_12 rfl rfl ?_
    refine K.getF dGM_13 (wd162 hw) P3 ?_
    refine K.ic_eq dGM_16 (fun _ => ?_) (fun u => absurd rfl u)
    refine K.aloadN dGM_64 rfl rfl ?_
    refine K.getF dGM_65 (wd160 hw) P2 ?_
    exact K.areturn dGM_68 rfl rfl rfl (by decide) (by decide) ⟨_, rfl, K1, Or.inl rfl, gm, k, g, by omega, by omega, PA⟩
  · refine K.aloadN dGM_0 rfl rfl ?_
    refine K.getF dGM_1 (wd158 hw) P1 ?_
    refine K.if_gt dGM_4 (fun _ => ?_) (fun u => absurd (by decide) u)
    refine K.aloadN dGM_19 rfl rfl ?_
    refine K.getF dGM_20 (wd160 hw) P2 ?_
    refine K.aloadN dGM_23 rfl rfl ?_
    refine K.getF dGM_24 (wd158 hw) P1 ?_
    refine K.aloadN dGM_27 rfl rfl ?_
    refine K.getF dGM_28 (wd158 hw) P1 ?_
    refine K.aloadN dGM_31 rfl rfl ?_
    refine K.getF dGM_32 (wd162 hw) P3 ?_
    refine K.iadd dGM_35 ?_
    rw [own_1k (by omega)]
    refine K.callS [.ref m, .int (Int32.ofNat 1), .int (Int32.ofNat k)] [] 0 1 4 dGM_36 (wd205 hw) (wd206 hw) (wd207 hw) (wd208 hw) (by decide) (rmCR l Z a0 hw m k g h n0 PA (by omega) (by omega)) rfl (lenOf pd_9 rfl) rfl (Nat.le_of_eq rfl) (by decide) (by decide) rfl rfl (by decide) (by decide) (goR fun t2 h3 q4 => ?_)
    obtain ⟨K5, g6, e7, gf8, A9⟩ := q4
    have lt_a_t2 : a < t2 := Nat.lt_of_lt_of_le PE.lt g6
    have lt_m_t2 : m < t2 := Nat.lt_of_lt_of_le PA.lt g6
    have ks10 := Nat.le_trans K1.1 g6
    have K11 := K1.trans K5 all0
    have I12 := PA.keep K5 nin0
    have E13 := PE.keep K5
    have F14 := P1.keep K5 nin0
    have F15 := P2.keep K5 nin0
    have F16 := P3.keep K5 nin0
    refine K.astoreN #[oA a, oA t2] dGM_39 rfl rfl ?_
    refine K.aloadN dGM_40 rfl rfl ?_
    refine K.getF dGM_41 (wd160 hw) F15 ?_
    refine K.iconst (0 : Int32) dGM_44 rfl ?_
    refine K.callS [.ref m, .int 0] [] 0 1 4 dGM_45 (wd219 hw) (wd220 hw) (wd207 hw) (wd221 hw) (by decide) (rmFI l Z a0 hw m k (intF g) h3 n0 I12 gm (by omega)) rfl (lenOf pd_10 rfl) rfl (Nat.le_of_eq rfl) (by decide) (by decide) rfl rfl (by decide) (by decide) (goU fun h17 K18 => ?_)
    have K19 := K11.trans K18 (allS (Or.inl (mg 1 rfl)) all0)
    have E20 := E13.keep K18
    have F21 := F14.keep K18 (ninS (Ne.symm hma) nin0)
    have F22 := F15.keep K18 (ninS (Ne.symm hma) nin0)
    have F23 := F16.keep K18 (ninS (Ne.symm hma) nin0)
    have I24 := A9.keep K18 (ninS (Nat.ne_of_gt lt_m_t2) nin0)
    refine K.aloadN dGM_48 rfl rfl ?_
    refine K.iconst (0 : Int32) dGM_49 rfl ?_
    refine K.putF dGM_50 (wd158 hw) F21 E20 (Or.inl (wd159 hw)) (wd151 hw) (ty := .int) (by decide) rfl rfl ga (fun h25 W26 => ?_)
    have K27 := K19.wr W26 (Or.inl (mg 0 rfl))
    have E28 := E20.wr W26
    have F29 := F21.same W26
    have F30 := F22.other W26 (Or.inr (sn28 hw))
    have F31 := F23.other W26 (Or.inr (sn29 hw))
    have I32 := I24.other W26 (Nat.ne_of_gt lt_a_t2)
    refine K.aloadN dGM_53 rfl rfl ?_
    refine K.aloadN dGM_54 rfl rfl ?_
    refine K.arraylength dGM_55 I32 ?_
    refine K.putF dGM_56 (wd162 hw) F31 E28 (Or.inl (wd163 hw)) (wd151 hw) (ty := .int) (by decide) rfl rfl ga (fun h33 W34 => ?_)
    have K35 := K27.wr W34 (Or.inl (mg 0 rfl))
    have E36 := E28.wr W34
    have F37 := F29.other W34 (Or.inr (sn32 hw))
    have F38 := F30.other W34 (Or.inr (sn33 hw))
    have F39 := F31.same W34
    have I40 := I32.other W34 (Nat.ne_of_gt lt_a_t2)
    refine K.aloadN dGM_59 rfl rfl ?_
    refine K.aloadN dGM_60 rfl rfl ?_
    refine K.putF dGM_61 (wd160 hw) F38 E36 (Or.inl (wd161 hw)) (wd151 hw) (ty := (.array .int)) (by decide) rfl rfl ga (fun h41 W42 => ?_)
    have K43 := K35.wr W42 (Or.inl (mg 0 rfl))
    have E44 := E36.wr W42
    have F45 := F37.other W42 (Or.inr (sn30 hw))
    have F46 := F38.same W42
    have F47 := F39.other W42 (Or.inr (sn31 hw))
    have I48 := I40.other W42 (Nat.ne_of_gt lt_a_t2)
    refine K.aloadN dGM_64 rfl rfl ?_
    refine K.getF dGM_65 (wd160 hw) F46 ?_
    exact K.areturn dGM_68 rfl rfl rfl (by decide) (by decide) ⟨_, rfl, K43, Or.inr ks10, e7, k - 1, _, by omega, by omega, I48⟩
theorem rmCA2 (l : Launch) (Z : State) (a0 : Array Value) (hw : Hw Z a0) (a d : Addr) (s : Nat) (g : Nat → Int32) (h : Heap) (n0 : Nat) (A1 : Ia Z h a .int (Int32.ofNat 2) (intF g)) (A2 : Ia Z h d .int (Int32.ofNat 2) (fun _ => .int 0)) (gd : n0 ≤ d) (hda : d ≠ a) : Con l Z ⟨"java/math/MutableBigInteger", "copyAndShift", "([III[III)V"⟩ jdk_2101_method_64_code 10 none ⟨0, 0, 0, 0⟩ #[.ref a, .int 0, .int 2, .ref d, .int 0, .int (Int32.ofNat s)] h n0 (fun vr h' => vr = none ∧ (Keep h h' [d] ∧ Ia Z h' d .int (Int32.ofNat 2) (fun k_ => if k_ = (1 : Int32) then .int (g 1 <<< (Int32.ofNat s &&& 31)) else (fun k_ => if k_ = (0 : Int32) then .int (((g 0) <<< (Int32.ofNat s &&& 31)) ||| ((g 1).toUInt32 >>> (((32 : Int32) - Int32.ofNat s) &&& 31).toUInt32).toInt32) else (fun _ => .int 0) k_) k_))) := by
  refine Con.of pnCA2 (fun m_ => efCA2 m_ a (0 : Int32) (2 : Int32) d (0 : Int32) (Int32.ofNat s)) (fun E K => ?_)
  have K1 : Keep h h [d] := Keep.refl _ _
  refine K.bipush (32 : Int32) dCA2_0 rfl ?_
  refine K.iload dCA2_2 rfl ?_
  refine K.isub dCA2_4 ?_
  refine K.istore #[oA a, oI (0 : Int32), oI (2 : Int32), oA d, oI (0 : Int32), oI (Int32.ofNat s), oI ((32 : Int32) - (Int32.ofNat s)), oU, oU, oU] dCA2_5 rfl ?_
  refine K.aloadN dCA2_7 rfl rfl ?_
  refine K.iloadN dCA2_8 rfl ?_
  refine K.iaload (v := .int (g 0)) dCA2_9 A1 (by decide) (by decide) rfl ?_
  refine K.istore #[oA a, oI (0 : Int32), oI (2 : Int32), oA d, oI (0 : Int32), oI (Int32.ofNat s), oI ((32 : Int32) - (Int32.ofNat s)), oI (g 0), oU, oU] dCA2_10 rfl ?_
  refine K.iconst (0 : Int32) dCA2_12 rfl ?_
  refine K.istore #[oA a, oI (0 : Int32), oI (2 : Int32), oA d, oI (0 : Int32), oI (Int32.ofNat s), oI ((32 : Int32) - (Int32.ofNat s)), oI (g 0), oI (0 : Int32), oU] dCA2_13 rfl ?_
  refine K.iload dCA2_15 rfl ?_
  refine K.iloadN dCA2_17 rfl ?_
  refine K.iconst (1 : Int32) dCA2_18 rfl ?_
  refine K.isub dCA2_19 ?_
  show Wk E h 0 0 20 #[oA a, oI (0 : Int32), oI (2 : Int32), oA d, oI (0 : Int32), oI (Int32.ofNat s), oI ((32 : Int32) - (Int32.ofNat s)), oI (g 0), oI (0 : Int32), oU] [.int 1, .int 0]
  refine K.ic_ge dCA2_20 (fun _ => ?_) (fun u => absurd (by decide) u)
  refine K.iload dCA2_23 rfl ?_
  refine K.istore #[oA a, oI (0 : Int32), oI (2 : Int32), oA d, oI (0 : Int32), oI (Int32.ofNat s), oI ((32 : Int32) - (Int32.ofNat s)), oI (g 0), oI (0 : Int32), oI (g 0)] dCA2_25 rfl ?_
  refine K.aloadN dCA2_27 rfl rfl ?_
  refine K.iinc ((1 : Int32)) #[oA a, oI (1 : Int32), oI (2 : Int32), oA d, oI (0 : Int32), oI (Int32.ofNat s), oI ((32 : Int32) - (Int32.ofNat s)), oI (g 0), oI (0 : Int32), oI (g 0)] dCA2_28 rfl rfl rfl ?_
  refine K.iloadN dCA2_31 rfl ?_
  refine K.iaload (v := .int (g 1)) dCA2_32 A1 (by decide) (by decide) rfl ?_
  refine K.istore #[oA a, oI (1 : Int32), oI (2 : Int32), oA d, oI (0 : Int32), oI (Int32.ofNat s), oI ((32 : Int32) - (Int32.ofNat s)), oI (g 1), oI (0 : Int32), oI (g 0)] dCA2_33 rfl ?_
  refine K.aloadN dCA2_35 rfl rfl ?_
  refine K.iload dCA2_36 rfl ?_
  refine K.iload dCA2_38 rfl ?_
  refine K.iadd dCA2_40 ?_
  show Wk E h 0 0 41 #[oA a, oI (1 : Int32), oI (2 : Int32), oA d, oI (0 : Int32), oI (Int32.ofNat s), oI ((32 : Int32) - (Int32.ofNat s)), oI (g 1), oI (0 : Int32), oI (g 0)] [.int 0, .ref d]
  refine K.iload dCA2_41 rfl ?_
  refine K.iload dCA2_43 rfl ?_
  refine K.ishl dCA2_45 ?_
  refine K.iload dCA2_46 rfl ?_
  refine K.iload dCA2_48 rfl ?_
  refine K.iushr dCA2_50 ?_
  refine K.ior dCA2_51 ?_
  refine K.iastore dCA2_52 A2 (by decide) (by decide) gd (fun h2 W3 A4 => ?_)
  have K5 := K1.wr W3 (Or.inl (mg 0 rfl))
  have I6 := A1.other W3 (Ne.symm hda)
  refine K.iinc ((1 : Int32)) #[oA a, oI (1 : Int32), oI (2 : Int32), oA d, oI (0 : Int32), oI (Int32.ofNat s), oI ((32 : Int32) - (Int32.ofNat s)), oI (g 1), oI (1 : Int32), oI (g 0)] dCA2_53 rfl rfl rfl ?_
  refine K.goto dCA2_56 ?_
  refine K.iload dCA2_15 rfl ?_
  refine K.iloadN dCA2_17 rfl ?_
  refine K.iconst (1 : Int32) dCA2_18 rfl ?_
  refine K.isub dCA2_19 ?_
  show Wk E h2 0 0 20 #[oA a, oI (1 : Int32), oI (2 : Int32), oA d, oI (0 : Int32), oI (Int32.ofNat s), oI ((32 : Int32) - (Int32.ofNat s)), oI (g 1), oI (1 : Int32), oI (g 0)] [.int 1, .int 1]
  refine K.ic_ge dCA2_20 (fun u => absurd u (by decide)) (fun _ => ?_)
  refine K.aloadN dCA2_59 rfl rfl ?_
  refine K.iload dCA2_60 rfl ?_
  refine K.iloadN dCA2_62 rfl ?_
  refine K.iadd dCA2_63 ?_
  refine K.iconst (1 : Int32) dCA2_64 rfl ?_
  refine K.isub dCA2_65 ?_
  show Wk E h2 0 0 66 #[oA a, oI (1 : Int32), oI (2 : Int32), oA d, oI (0 : Int32), oI (Int32.ofNat s), oI ((32 : Int32) - (Int32.ofNat s)), oI (g 1), oI (1 : Int32), oI (g 0)] [.int 1, .ref d]
  refine K.iload dCA2_66 rfl ?_
  refine K.iload dCA2_68 rfl ?_
  refine K.ishl dCA2_70 ?_
  refine K.iastore dCA2_71 A4 (by decide) (by decide) gd (fun h7 W8 A9 => ?_)
  have K10 := K5.wr W8 (Or.inl (mg 0 rfl))
  have I11 := I6.other W8 (Ne.symm hda)
  exact K.ret dCA2_72 (by decide) (by decide) ⟨rfl, K10, A9⟩
theorem rmCA4 (l : Launch) (Z : State) (a0 : Array Value) (hw : Hw Z a0) (a d : Addr) (s : Nat) (g : Nat → Int32) (h : Heap) (n0 : Nat) (A1 : Ia Z h a .int (Int32.ofNat 4) (intF g)) (A2 : Ia Z h d .int (Int32.ofNat 5) (fun _ => .int 0)) (gd : n0 ≤ d) (hda : d ≠ a) : Con l Z ⟨"java/math/MutableBigInteger", "copyAndShift", "([III[III)V"⟩ jdk_2101_method_64_code 10 none ⟨0, 0, 0, 0⟩ #[.ref a, .int 0, .int 4, .ref d, .int 1, .int (Int32.ofNat s)] h n0 (fun vr h' => vr = none ∧ (Keep h h' [d] ∧ Ia Z h' d .int (Int32.ofNat 5) (fun k_ => if k_ = (4 : Int32) then .int (g 3 <<< (Int32.ofNat s &&& 31)) else (fun k_ => if k_ = (3 : Int32) then .int (((g 2) <<< (Int32.ofNat s &&& 31)) ||| ((g 3).toUInt32 >>> (((32 : Int32) - Int32.ofNat s) &&& 31).toUInt32).toInt32) else (fun k_ => if k_ = (2 : Int32) then .int (((g 1) <<< (Int32.ofNat s &&& 31)) ||| ((g 2).toUInt32 >>> (((32 : Int32) - Int32.ofNat s) &&& 31).toUInt32).toInt32) else (fun k_ => if k_ = (1 : Int32) then .int (((g 0) <<< (Int32.ofNat s &&& 31)) ||| ((g 1).toUInt32 >>> (((32 : Int32) - Int32.ofNat s) &&& 31).toUInt32).toInt32) else (fun _ => .int 0) k_) k_) k_) k_))) := by
  refine Con.of pnCA4 (fun m_ => efCA4 m_ a (0 : Int32) (4 : Int32) d (1 : Int32) (Int32.ofNat s)) (fun E K => ?_)
  have K1 : Keep h h [d] := Keep.refl _ _
  refine K.bipush (32 : Int32) dCA4_0 rfl ?_
  refine K.iload dCA4_2 rfl ?_
  refine K.isub dCA4_4 ?_
  refine K.istore #[oA a, oI (0 : Int32), oI (4 : Int32), oA d, oI (1 : Int32), oI (Int32.ofNat s), oI ((32 : Int32) - (Int32.ofNat s)), oU, oU, oU] dCA4_5 rfl ?_
  refine K.aloadN dCA4_7 rfl rfl ?_
  refine K.iloadN dCA4_8 rfl ?_
  refine K.iaload (v := .int (g 0)) dCA4_9 A1 (by decide) (by decide) rfl ?_
  refine K.istore #[oA a, oI (0 : Int32), oI (4 : Int32), oA d, oI (1 : Int32), oI (Int32.ofNat s), oI ((32 : Int32) - (Int32.ofNat s)), oI (g 0), oU, oU] dCA4_10 rfl ?_
  refine K.iconst (0 : Int32) dCA4_12 rfl ?_
  refine K.istore #[oA a, oI (0 : Int32), oI (4 : Int32), oA d, oI (1 : Int32), oI (Int32.ofNat s), oI ((32 : Int32) - (Int32.ofNat s)), oI (g 0), oI (0 : Int32), oU] dCA4_13 rfl ?_
  refine K.iload dCA4_15 rfl ?_
  refine K.iloadN dCA4_17 rfl ?_
  refine K.iconst (1 : Int32) dCA4_18 rfl ?_
  refine K.isub dCA4_19 ?_
  show Wk E h 0 0 20 #[oA a, oI (0 : Int32), oI (4 : Int32), oA d, oI (1 : Int32), oI (Int32.ofNat s), oI ((32 : Int32) - (Int32.ofNat s)), oI (g 0), oI (0 : Int32), oU] [.int 3, .int 0]
  refine K.ic_ge dCA4_20 (fun _ => ?_) (fun u => absurd (by decide) u)
  refine K.iload dCA4_23 rfl ?_
  refine K.istore #[oA a, oI (0 : Int32), oI (4 : Int32), oA d, oI (1 : Int32), oI (Int32.ofNat s), oI ((32 : Int32) - (Int32.ofNat s)), oI (g 0), oI (0 : Int32), oI (g 0)] dCA4_25 rfl ?_
  refine K.aloadN dCA4_27 rfl rfl ?_
  refine K.iinc ((1 : Int32)) #[oA a, oI (1 : Int32), oI (4 : Int32), oA d, oI (1 : Int32), oI (Int32.ofNat s), oI ((32 : Int32) - (Int32.ofNat s)), oI (g 0), oI (0 : Int32), oI (g 0)] dCA4_28 rfl rfl rfl ?_
  refine K.iloadN dCA4_31 rfl ?_
  refine K.iaload (v := .int (g 1)) dCA4_32 A1 (by decide) (by decide) rfl ?_
  refine K.istore #[oA a, oI (1 : Int32), oI (4 : Int32), oA d, oI (1 : Int32), oI (Int32.ofNat s), oI ((32 : Int32) - (Int32.ofNat s)), oI (g 1), oI (0 : Int32), oI (g 0)] dCA4_33 rfl ?_
  refine K.aloadN dCA4_35 rfl rfl ?_
  refine K.iload dCA4_36 rfl ?_
  refine K.iload dCA4_38 rfl ?_
  refine K.iadd dCA4_40 ?_
  show Wk E h 0 0 41 #[oA a, oI (1 : Int32), oI (4 : Int32), oA d, oI (1 : Int32), oI (Int32.ofNat s), oI ((32 : Int32) - (Int32.ofNat s)), oI (g 1), oI (0 : Int32), oI (g 0)] [.int 1, .ref d]
  refine K.iload dCA4_41 rfl ?_
  refine K.iload dCA4_43 rfl ?_
  refine K.ishl dCA4_45 ?_
  refine K.iload dCA4_46 rfl ?_
  refine K.iload dCA4_48 rfl ?_
  refine K.iushr dCA4_50 ?_
  refine K.ior dCA4_51 ?_
  refine K.iastore dCA4_52 A2 (by decide) (by decide) gd (fun h2 W3 A4 => ?_)
  have K5 := K1.wr W3 (Or.inl (mg 0 rfl))
  have I6 := A1.other W3 (Ne.symm hda)
  refine K.iinc ((1 : Int32)) #[oA a, oI (1 : Int32), oI (4 : Int32), oA d, oI (1 : Int32), oI (Int32.ofNat s), oI ((32 : Int32) - (Int32.ofNat s)), oI (g 1), oI (1 : Int32), oI (g 0)] dCA4_53 rfl rfl rfl ?_
  refine K.goto dCA4_56 ?_
  refine K.iload dCA4_15 rfl ?_
  refine K.iloadN dCA4_17 rfl ?_
  refine K.iconst (1 : Int32) dCA4_18 rfl ?_
  refine K.isub dCA4_19 ?_
  show Wk E h2 0 0 20 #[oA a, oI (1 : Int32), oI (4 : Int32), oA d, oI (1 : Int32), oI (Int32.ofNat s), oI ((32 : Int32) - (Int32.ofNat s)), oI (g 1), oI (1 : Int32), oI (g 0)] [.int 3, .int 1]
  refine K.ic_ge dCA4_20 (fun _ => ?_) (fun u => absurd (by decide) u)
  refine K.iload dCA4_23 rfl ?_
  refine K.istore #[oA a, oI (1 : Int32), oI (4 : Int32), oA d, oI (1 : Int32), oI (Int32.ofNat s), oI ((32 : Int32) - (Int32.ofNat s)), oI (g 1), oI (1 : Int32), oI (g 1)] dCA4_25 rfl ?_
  refine K.aloadN dCA4_27 rfl rfl ?_
  refine K.iinc ((2 : Int32)) #[oA a, oI (2 : Int32), oI (4 : Int32), oA d, oI (1 : Int32), oI (Int32.ofNat s), oI ((32 : Int32) - (Int32.ofNat s)), oI (g 1), oI (1 : Int32), oI (g 1)] dCA4_28 rfl rfl rfl ?_
  refine K.iloadN dCA4_31 rfl ?_
  refine K.iaload (v := .int (g 2)) dCA4_32 I6 (by decide) (by decide) rfl ?_
  refine K.istore #[oA a, oI (2 : Int32), oI (4 : Int32), oA d, oI (1 : Int32), oI (Int32.ofNat s), oI ((32 : Int32) - (Int32.ofNat s)), oI (g 2), oI (1 : Int32), oI (g 1)] dCA4_33 rfl ?_
  refine K.aloadN dCA4_35 rfl rfl ?_
  refine K.iload dCA4_36 rfl ?_
  refine K.iload dCA4_38 rfl ?_
  refine K.iadd dCA4_40 ?_
  show Wk E h2 0 0 41 #[oA a, oI (2 : Int32), oI (4 : Int32), oA d, oI (1 : Int32), oI (Int32.ofNat s), oI ((32 : Int32) - (Int32.ofNat s)), oI (g 2), oI (1 : Int32), oI (g 1)] [.int 2, .ref d]
  refine K.iload dCA4_41 rfl ?_
  refine K.iload dCA4_43 rfl ?_
  refine K.ishl dCA4_45 ?_
  refine K.iload dCA4_46 rfl ?_
  refine K.iload dCA4_48 rfl ?_
  refine K.iushr dCA4_50 ?_
  refine K.ior dCA4_51 ?_
  refine K.iastore dCA4_52 A4 (by decide) (by decide) gd (fun h7 W8 A9 => ?_)
  have K10 := K5.wr W8 (Or.inl (mg 0 rfl))
  have I11 := I6.other W8 (Ne.symm hda)
  refine K.iinc ((2 : Int32)) #[oA a, oI (2 : Int32), oI (4 : Int32), oA d, oI (1 : Int32), oI (Int32.ofNat s), oI ((32 : Int32) - (Int32.ofNat s)), oI (g 2), oI (2 : Int32), oI (g 1)] dCA4_53 rfl rfl rfl ?_
  refine K.goto dCA4_56 ?_
  refine K.iload dCA4_15 rfl ?_
  refine K.iloadN dCA4_17 rfl ?_
  refine K.iconst (1 : Int32) dCA4_18 rfl ?_
  refine K.isub dCA4_19 ?_
  show Wk E h7 0 0 20 #[oA a, oI (2 : Int32), oI (4 : Int32), oA d, oI (1 : Int32), oI (Int32.ofNat s), oI ((32 : Int32) - (Int32.ofNat s)), oI (g 2), oI (2 : Int32), oI (g 1)] [.int 3, .int 2]
  refine K.ic_ge dCA4_20 (fun _ => ?_) (fun u => absurd (by decide) u)
  refine K.iload dCA4_23 rfl ?_
  refine K.istore #[oA a, oI (2 : Int32), oI (4 : Int32), oA d, oI (1 : Int32), oI (Int32.ofNat s), oI ((32 : Int32) - (Int32.ofNat s)), oI (g 2), oI (2 : Int32), oI (g 2)] dCA4_25 rfl ?_
  refine K.aloadN dCA4_27 rfl rfl ?_
  refine K.iinc ((3 : Int32)) #[oA a, oI (3 : Int32), oI (4 : Int32), oA d, oI (1 : Int32), oI (Int32.ofNat s), oI ((32 : Int32) - (Int32.ofNat s)), oI (g 2), oI (2 : Int32), oI (g 2)] dCA4_28 rfl rfl rfl ?_
  refine K.iloadN dCA4_31 rfl ?_
  refine K.iaload (v := .int (g 3)) dCA4_32 I11 (by decide) (by decide) rfl ?_
  refine K.istore #[oA a, oI (3 : Int32), oI (4 : Int32), oA d, oI (1 : Int32), oI (Int32.ofNat s), oI ((32 : Int32) - (Int32.ofNat s)), oI (g 3), oI (2 : Int32), oI (g 2)] dCA4_33 rfl ?_
  refine K.aloadN dCA4_35 rfl rfl ?_
  refine K.iload dCA4_36 rfl ?_
  refine K.iload dCA4_38 rfl ?_
  refine K.iadd dCA4_40 ?_
  show Wk E h7 0 0 41 #[oA a, oI (3 : Int32), oI (4 : Int32), oA d, oI (1 : Int32), oI (Int32.ofNat s), oI ((32 : Int32) - (Int32.ofNat s)), oI (g 3), oI (2 : Int32), oI (g 2)] [.int 3, .ref d]
  refine K.iload dCA4_41 rfl ?_
  refine K.iload dCA4_43 rfl ?_
  refine K.ishl dCA4_45 ?_
  refine K.iload dCA4_46 rfl ?_
  refine K.iload dCA4_48 rfl ?_
  refine K.iushr dCA4_50 ?_
  refine K.ior dCA4_51 ?_
  refine K.iastore dCA4_52 A9 (by decide) (by decide) gd (fun h12 W13 A14 => ?_)
  have K15 := K10.wr W13 (Or.inl (mg 0 rfl))
  have I16 := I11.other W13 (Ne.symm hda)
  refine K.iinc ((3 : Int32)) #[oA a, oI (3 : Int32), oI (4 : Int32), oA d, oI (1 : Int32), oI (Int32.ofNat s), oI ((32 : Int32) - (Int32.ofNat s)), oI (g 3), oI (3 : Int32), oI (g 2)] dCA4_53 rfl rfl rfl ?_
  refine K.goto dCA4_56 ?_
  refine K.iload dCA4_15 rfl ?_
  refine K.iloadN dCA4_17 rfl ?_
  refine K.iconst (1 : Int32) dCA4_18 rfl ?_
  refine K.isub dCA4_19 ?_
  show Wk E h12 0 0 20 #[oA a, oI (3 : Int32), oI (4 : Int32), oA d, oI (1 : Int32), oI (Int32.ofNat s), oI ((32 : Int32) - (Int32.ofNat s)), oI (g 3), oI (3 : Int32), oI (g 2)] [.int 3, .int 3]
  refine K.ic_ge dCA4_20 (fun u => absurd u (by decide)) (fun _ => ?_)
  refine K.aloadN dCA4_59 rfl rfl ?_
  refine K.iload dCA4_60 rfl ?_
  refine K.iloadN dCA4_62 rfl ?_
  refine K.iadd dCA4_63 ?_
  refine K.iconst (1 : Int32) dCA4_64 rfl ?_
  refine K.isub dCA4_65 ?_
  show Wk E h12 0 0 66 #[oA a, oI (3 : Int32), oI (4 : Int32), oA d, oI (1 : Int32), oI (Int32.ofNat s), oI ((32 : Int32) - (Int32.ofNat s)), oI (g 3), oI (3 : Int32), oI (g 2)] [.int 4, .ref d]
  refine K.iload dCA4_66 rfl ?_
  refine K.iload dCA4_68 rfl ?_
  refine K.ishl dCA4_70 ?_
  refine K.iastore dCA4_71 A14 (by decide) (by decide) gd (fun h17 W18 A19 => ?_)
  have K20 := K15.wr W18 (Or.inl (mg 0 rfl))
  have I21 := I16.other W18 (Ne.symm hda)
  exact K.ret dCA4_72 (by decide) (by decide) ⟨rfl, K20, A19⟩
theorem rmNL (l : Launch) (Z : State) (a0 : Array Value) (hw : Hw Z a0) (x : Int64) (h : Heap) (n0 : Nat) (h0 : 0 ≤ x.toInt) : Con l Z ⟨"java/lang/Long", "numberOfLeadingZeros", "(J)I"⟩ jdk_35_method_48_code 3 (some .int) ⟨1, 0, 0, 14⟩ #[.long x] h n0 (fun vr h' => ∃ z, vr = some (.int z) ∧ (h' = h ∧ ∃ b : Nat, z = Int32.ofNat (64 - b) ∧ LB x.toInt b)) := by
  refine Con.of pnNL (fun m_ => efNL m_ x) (fun E K => ?_)
  refine K.lloadN dNL_0 rfl ?_
  refine K.bipush (32 : Int32) dNL_1 rfl ?_
  refine K.lushr dNL_3 ?_
  refine K.l2i dNL_4 ?_
  refine K.istoreN #[oJ x, oT, oI (((x.toUInt64 >>> ((32 : Int32) &&& 63).toInt64.toUInt64).toInt64).toInt32)] dNL_5 rfl ?_
  refine K.iloadN dNL_6 rfl ?_
  have eh := uv_hi x
  refine K.if_ne dNL_7 (fun hc1 => ?_) (fun hc1 => ?_)
  · have hz : uw x / 4294967296 = 0 := by rw [← eh, hc1]; rfl
    refine K.bipush (32 : Int32) dNL_10 rfl ?_
    refine K.lloadN dNL_12 rfl ?_
    refine K.l2i dNL_13 ?_
    refine K.callS [.int x.toInt32] [.int 32] 1 0 0 dNL_14 (wd81 hw) (wd82 hw) (wd83 hw) (wd84 hw) (by decide) (rmNI l Z a0 hw x.toInt32 h n0) rfl (lenOf pd_6 rfl) rfl (Nat.le_of_eq rfl) (by decide) (by decide) rfl rfl (by decide) (by decide) (goIs fun z2 q3 => ?_)
    obtain ⟨k4, rfl, N5⟩ := q3
    obtain ⟨e1, e2⟩ := lb_lo h0 hz N5
    refine K.iadd dNL_17 ?_
    refine K.goto dNL_18 ?_
    exact K.ireturn dNL_25 (Or.inl rfl) rfl (by decide) (by decide) ⟨_, rfl, rfl, 32 - k4, e1, e2⟩
  · have hz : ¬ uw x / 4294967296 = 0 := fun q => hc1 (i_of (eh.trans q))
    refine K.iloadN dNL_21 rfl ?_
    refine K.callS [.int (((x.toUInt64 >>> ((32 : Int32) &&& 63).toInt64.toUInt64).toInt64).toInt32)] [] 0 0 0 dNL_22 (wd81 hw) (wd82 hw) (wd83 hw) (wd84 hw) (by decide) (rmNI l Z a0 hw (((x.toUInt64 >>> ((32 : Int32) &&& 63).toInt64.toUInt64).toInt64).toInt32) h n0) rfl (lenOf pd_6 rfl) rfl (Nat.le_of_eq rfl) (by decide) (by decide) rfl rfl (by decide) (by decide) (goIs fun z6 q7 => ?_)
    obtain ⟨k8, rfl, N9⟩ := q7
    rw [eh] at N9
    obtain ⟨e1, e2⟩ := lb_hi h0 hz N9
    exact K.ireturn dNL_25 (Or.inl rfl) rfl (by decide) (by decide) ⟨_, rfl, rfl, 64 - k8, e1, e2⟩
theorem rmTB (l : Launch) (Z : State) (a0 : Array Value) (hw : Hw Z a0) (a m : Addr) (i k : Nat) (g : Nat → Int32) (h : Heap) (n0 : Nat) (PE : Exa Z h a "java/math/MutableBigInteger") (P1 : Fld Z h a "java/math/MutableBigInteger" "offset" "I" (.int (Int32.ofNat i))) (P2 : Fld Z h a "java/math/MutableBigInteger" "value" "[I" (.ref m)) (P3 : Fld Z h a "java/math/MutableBigInteger" "intLen" "I" (.int (Int32.ofNat (k - i)))) (PA : Ia Z h m .int (Int32.ofNat k) (intF g)) (ga : n0 ≤ a) (gm : n0 ≤ m) (hma : m ≠ a) (hi : i ≤ 1) (hik : i + 2 ≤ k) (hk : k ≤ 4) : Con l Z ⟨"java/math/MutableBigInteger", "toBigInteger", "(I)Ljava/math/BigInteger;"⟩ jdk_2101_method_9_code 2 (some (.object "java/math/BigInteger")) ⟨4, 2, 10, 63⟩ #[.ref a, .int 1] h n0 (fun vr h' => ∃ t, vr = some (.ref t) ∧ (Keep h h' [a, m] ∧ Exa Z h' t "java/math/BigInteger" ∧ Fld Z h' t "java/math/BigInteger" "signum" "I" (.int 1) ∧ ∃ (m_ : Addr) (k_ : Nat) (g_ : Nat → Int32), Fld Z h' t "java/math/BigInteger" "mag" "[I" (.ref m_) ∧ Ia Z h' m_ .int (Int32.ofNat k_) (intF g_) ∧ (2 ≤ k_ ∧ k_ ≤ 4))) := by
  refine Con.of pnTB (fun m_ => efTB m_ a (1 : Int32)) (fun E K => ?_)
  have K1 : Keep h h [a, m] := Keep.refl _ _
  refine K.aloadN dTB_0 rfl rfl ?_
  refine K.getF dTB_1 (wd162 hw) P3 ?_
  refine K.if_eq dTB_4 (fun u => absurd u (fun q => absurd (own_inj (j := 0) (by omega) (by decide) q) (by omega))) (fun _ => ?_)
  refine K.iloadN dTB_7 rfl ?_
  refine K.if_ne dTB_8 (fun u => absurd u (by decide)) (fun _ => ?_)
  refine K.newO 1 6 dTB_15 (wd199 hw) (wd103 hw) (wd94 hw) rfl rfl (by decide) (by decide) (fun h3 a2 ha4 g5 X6 A7 D8 => ?_)
  have ks_a2 := ha_ge K1.1 ha4
  have lt_a_a2 : a < a2 := by rw [ha4]; exact PE.lt
  have lt_m_a2 : m < a2 := by rw [ha4]; exact PA.lt
  have K9 := K1.ext X6
  have I10 := PA.ext X6
  have E11 := PE.ext X6
  have F12 := P1.ext X6
  have F13 := P2.ext X6
  have F14 := P3.ext X6
  have F15 : Fld Z h3 a2 "java/math/BigInteger" "signum" "I" (.int 0) := D8 (Or.inr (wd101 hw)) (ty := .int) (by decide)
  have F16 : Fld Z h3 a2 "java/math/BigInteger" "mag" "[I" .null := D8 (Or.inr (wd105 hw)) (ty := (.array .int)) (by decide)
  refine K.dup dTB_18 rfl ?_
  refine K.aloadN dTB_19 rfl rfl ?_
  refine K.callP (a := a) [] [.ref a2, .ref a2] 2 2 10 dTB_20 (wd200 hw) (wd202 hw) (wd203 hw) (wd201 hw) (wd152 hw) (wd204 hw) (by decide) (rmGM l Z a0 hw a m i k g h3 n0 E11 F12 F13 F14 I10 ga gm hma (by omega) (by omega) (by omega)) E11 rfl (lenOf pd_11 rfl) rfl (Nat.le_of_eq rfl) (by decide) (by decide) rfl rfl (by decide) (by decide) (goR fun t17 h18 q19 => ?_)
  obtain ⟨K20, om21, e22, k23, gf24, e25, e26, A27⟩ := q19
  have ne28 : t17 ≠ a2 := by
    rcases om21 with e_ | e_
    · rw [e_]; exact (Nat.ne_of_lt lt_m_a2)
    · exact Nat.ne_of_gt (Nat.lt_of_lt_of_le A7.lt e_)
  have K29 := K9.trans K20 (allS (Or.inl (mg 0 rfl)) (allS (Or.inl (mg 1 rfl)) all0))
  have E30 := E11.keep K20
  have E31 := A7.keep K20
  have F32 := F15.keep K20 (ninS (Nat.ne_of_gt lt_a_a2) (ninS (Nat.ne_of_gt lt_m_a2) nin0))
  have F33 := F16.keep K20 (ninS (Nat.ne_of_gt lt_a_a2) (ninS (Nat.ne_of_gt lt_m_a2) nin0))
  refine K.iloadN dTB_23 rfl ?_
  refine K.callI (a := a2) [.ref t17, .int 1] [.ref a2] 1 2 10 dTB_24 rfl rfl (wd222 hw) (wd115 hw) (wd94 hw) (wd117 hw) (by decide) (rmBM l Z a0 hw a2 t17 k23 (intF gf24) h18 n0 E31 F32 F33 A27 g5 ne28 (by omega) (by omega)) rfl (lenOf pd_10 rfl) rfl (Nat.le_of_eq rfl) (by decide) (by decide) rfl rfl (by decide) (by decide) (goU fun h34 q35 => ?_)
  obtain ⟨K36, F37, F38⟩ := q35
  have K39 := K29.trans K36 (allS (Or.inr ks_a2) all0)
  have E40 := E30.keep K36
  have E41 := E31.keep K36
  have I42 := A27.keep K36 (ninS ne28 nin0)
  exact K.areturn dTB_27 rfl rfl rfl (by decide) (by decide) ⟨_, rfl, K39, E41, F37, _, _, _, F38, I42, by omega⟩
theorem rmBJ (l : Launch) (Z : State) (a0 : Array Value) (hw : Hw Z a0) (a : Addr) (x : Int64) (h : Heap) (n0 : Nat) (PE : Exa Z h a "java/math/BigInteger") (P1 : Fld Z h a "java/math/BigInteger" "signum" "I" (.int 0)) (P2 : Fld Z h a "java/math/BigInteger" "mag" "[I" .null) (ga : n0 ≤ a) (h0 : 0 ≤ x.toInt) : Con l Z ⟨"java/math/BigInteger", "<init>", "(J)V"⟩ jdk_2097_method_30_code 4 none ⟨2, 1, 2, 24⟩ #[.ref a, .long x] h n0 (fun vr h' => vr = none ∧ (Keep h h' [a] ∧ Fld Z h' a "java/math/BigInteger" "signum" "I" (.int 1) ∧ ∃ (m : Addr) (k : Nat) (g : Nat → Int32), h.size ≤ m ∧ n0 ≤ m ∧ Fld Z h' a "java/math/BigInteger" "mag" "[I" (.ref m) ∧ Ia Z h' m .int (Int32.ofNat k) (intF g) ∧ BigW k g x.toInt)) := by
  refine Con.of pnBJ (fun m_ => efBJ m_ a x) (fun E K => ?_)
  have K1 : Keep h h [a] := Keep.refl _ _
  refine K.aloadN dBJ_0 rfl rfl ?_
  refine K.callI (a := a) [] [] 0 0 0 dBJ_1 rfl rfl (wd118 hw) (wd119 hw) (wd122 hw) (wd123 hw) (by decide) (rmNU l Z a0 hw a h n0 ) rfl (lenOf pd_5 rfl) rfl (Nat.le_of_eq rfl) (by decide) (by decide) rfl rfl (by decide) (by decide) (goN ?_)
  refine K.lloadN dBJ_4 rfl ?_
  refine K.lconst (0 : Int64) dBJ_5 rfl ?_
  refine K.lc_ge dBJ_6 dBJ_7 (fun u => absurd u (own_nlt0 h0)) (fun _ => ?_)
  refine K.aloadN dBJ_21 rfl rfl ?_
  refine K.iconst (1 : Int32) dBJ_22 rfl ?_
  refine K.putF dBJ_23 (wd100 hw) P1 PE (Or.inr ⟨(wd101 hw), rfl, rfl⟩) (wd103 hw) (ty := .int) (by decide) rfl rfl ga (fun h2 W3 => ?_)
  have K4 := K1.wr W3 (Or.inl (mg 0 rfl))
  have E5 := PE.wr W3
  have F6 := P1.same W3
  have F7 := P2.other W3 (Or.inr (sn26 hw))
  refine K.lloadN dBJ_26 rfl ?_
  refine K.bipush (32 : Int32) dBJ_27 rfl ?_
  refine K.lushr dBJ_29 ?_
  refine K.l2i dBJ_30 ?_
  refine K.istoreN #[oA a, oJ x, oT, oI (((x.toUInt64 >>> ((32 : Int32) &&& 63).toInt64.toUInt64).toInt64).toInt32)] dBJ_31 rfl ?_
  refine K.iloadN dBJ_32 rfl ?_
  refine K.if_ne dBJ_33 (fun hc8 => ?_) (fun hc8 => ?_)
  · refine K.aloadN dBJ_36 rfl rfl ?_
    refine K.iconst (1 : Int32) dBJ_37 rfl ?_
    refine K.newP (ty := .int) (dv := .int 0) 1 1 1 dBJ_38 (wd109 hw) rfl rfl (by decide) (by decide) (by decide) rfl rfl (by decide) (by decide) (fun h10 a9 ha11 g12 X13 A14 => ?_)
    have ks_a9 := ha_ge K4.1 ha11
    have lt_a_a9 : a < a9 := by rw [ha11]; exact E5.lt
    have K15 := K4.ext X13
    have E16 := E5.ext X13
    have F17 := F6.ext X13
    have F18 := F7.ext X13
    refine K.putF dBJ_40 (wd104 hw) F18 E16 (Or.inr ⟨(wd105 hw), rfl, rfl⟩) (wd103 hw) (ty := (.array .int)) (by decide) rfl rfl ga (fun h19 W20 => ?_)
    have K21 := K15.wr W20 (Or.inl (mg 0 rfl))
    have E22 := E16.wr W20
    have F23 := F17.other W20 (Or.inr (sn27 hw))
    have F24 := F18.same W20
    have I25 := A14.other W20 (Nat.ne_of_gt lt_a_a9)
    refine K.aloadN dBJ_43 rfl rfl ?_
    refine K.getF dBJ_44 (wd104 hw) F24 ?_
    refine K.iconst (0 : Int32) dBJ_47 rfl ?_
    refine K.lloadN dBJ_48 rfl ?_
    refine K.l2i dBJ_49 ?_
    refine K.iastore dBJ_50 I25 (by decide) (by decide) g12 (fun h26 W27 A28 => ?_)
    have K29 := K21.wr W27 (Or.inr ks_a9)
    have E30 := E22.wr W27
    have F31 := F23.other W27 (Or.inl (Nat.ne_of_lt lt_a_a9))
    have F32 := F24.other W27 (Or.inl (Nat.ne_of_lt lt_a_a9))
    refine K.goto dBJ_51 ?_
    obtain ⟨gf33, A34, E35⟩ := own_toF A28 (own_ifI zero_int _ _)
    have ev36 : gf33 0 = x.toInt32 := Value.int.inj ((E35 0).symm)
    exact K.ret dBJ_76 (by decide) (by decide) ⟨rfl, K29, F31, _, 1, _, ks_a9, g12, F32, A34, own_big1 h0 ev36 hc8⟩
  · refine K.aloadN dBJ_54 rfl rfl ?_
    refine K.iconst (2 : Int32) dBJ_55 rfl ?_
    refine K.newP (ty := .int) (dv := .int 0) 2 1 2 dBJ_56 (wd109 hw) rfl rfl (by decide) (by decide) (by decide) rfl rfl (by decide) (by decide) (fun h38 a37 ha39 g40 X41 A42 => ?_)
    have ks_a37 := ha_ge K4.1 ha39
    have lt_a_a37 : a < a37 := by rw [ha39]; exact E5.lt
    have K43 := K4.ext X41
    have E44 := E5.ext X41
    have F45 := F6.ext X41
    have F46 := F7.ext X41
    refine K.putF dBJ_58 (wd104 hw) F46 E44 (Or.inr ⟨(wd105 hw), rfl, rfl⟩) (wd103 hw) (ty := (.array .int)) (by decide) rfl rfl ga (fun h47 W48 => ?_)
    have K49 := K43.wr W48 (Or.inl (mg 0 rfl))
    have E50 := E44.wr W48
    have F51 := F45.other W48 (Or.inr (sn27 hw))
    have F52 := F46.same W48
    have I53 := A42.other W48 (Nat.ne_of_gt lt_a_a37)
    refine K.aloadN dBJ_61 rfl rfl ?_
    refine K.getF dBJ_62 (wd104 hw) F52 ?_
    refine K.iconst (0 : Int32) dBJ_65 rfl ?_
    refine K.iloadN dBJ_66 rfl ?_
    refine K.iastore dBJ_67 I53 (by decide) (by decide) g40 (fun h54 W55 A56 => ?_)
    have K57 := K49.wr W55 (Or.inr ks_a37)
    have E58 := E50.wr W55
    have F59 := F51.other W55 (Or.inl (Nat.ne_of_lt lt_a_a37))
    have F60 := F52.other W55 (Or.inl (Nat.ne_of_lt lt_a_a37))
    refine K.aloadN dBJ_68 rfl rfl ?_
    refine K.getF dBJ_69 (wd104 hw) F60 ?_
    refine K.iconst (1 : Int32) dBJ_72 rfl ?_
    refine K.lloadN dBJ_73 rfl ?_
    refine K.l2i dBJ_74 ?_
    refine K.iastore dBJ_75 A56 (by decide) (by decide) g40 (fun h61 W62 A63 => ?_)
    have K64 := K57.wr W62 (Or.inr ks_a37)
    have E65 := E58.wr W62
    have F66 := F59.other W62 (Or.inl (Nat.ne_of_lt lt_a_a37))
    have F67 := F60.other W62 (Or.inl (Nat.ne_of_lt lt_a_a37))
    obtain ⟨gf68, A69, E70⟩ := own_toF A63 (own_ifI (own_ifI zero_int _ _) _ _)
    have ev71 : gf68 0 = ((x.toUInt64 >>> ((32 : Int32) &&& 63).toInt64.toUInt64).toInt64).toInt32 := Value.int.inj ((E70 0).symm)
    have ev72 : gf68 1 = x.toInt32 := Value.int.inj ((E70 1).symm)
    exact K.ret dBJ_76 (by decide) (by decide) ⟨rfl, K64, F66, _, 2, _, ks_a37, g40, F67, A69, own_big2 h0 ev71 ev72 hc8⟩
theorem rmVO (l : Launch) (Z : State) (a0 : Array Value) (hw : Hw Z a0) (x : Int64) (h : Heap) (n0 : Nat) (hS : Sts Z) (hold : Ext Z.heap h) (h0 : 0 ≤ x.toInt) : Con l Z ⟨"java/math/BigInteger", "valueOf", "(J)Ljava/math/BigInteger;"⟩ jdk_2097_method_29_code 2 (some (.object "java/math/BigInteger")) ⟨3, 2, 8, 40⟩ #[.long x] h n0 (fun vr h' => ∃ t, vr = some (.ref t) ∧ (Keep h h' [] ∧ (x.toInt = 0 ∧ Fld Z h' t "java/math/BigInteger" "signum" "I" (.int 0) ∨ 1 ≤ x.toInt ∧ Exa Z h' t "java/math/BigInteger" ∧ Fld Z h' t "java/math/BigInteger" "signum" "I" (.int 1) ∧ ∃ (m_ : Addr) (k_ : Nat) (g_ : Nat → Int32), Fld Z h' t "java/math/BigInteger" "mag" "[I" (.ref m_) ∧ Ia Z h' m_ .int (Int32.ofNat k_) (intF g_) ∧ BigW k_ g_ x.toInt))) := by
  refine Con.of pnVO (fun m_ => efVO m_ x) (fun E K => ?_)
  obtain ⟨-, ⟨ze, Sz, Fz⟩, pa, pf, Sp, Ap, Hp⟩ := hS
  have Sz := Sz.ext hold
  have Fz := Fz.ext hold
  have Sp := Sp.ext hold
  have Ap := Ap.ext hold
  have K1 : Keep h h [] := Keep.refl _ _
  refine K.lloadN dVO_0 rfl ?_
  refine K.lconst (0 : Int64) dVO_1 rfl ?_
  refine K.lc_ne dVO_2 dVO_3 (fun hc2 => ?_) (fun hc2 => ?_)
  · refine K.getS dVO_6 (wd327 hw) Sz ?_
    exact K.areturn dVO_9 rfl rfl rfl (by decide) (by decide) ⟨_, rfl, K1, Or.inl ⟨by rw [hc2]; rfl, Fz⟩⟩
  · have hx1 := own_pos1 h0 hc2
    refine K.lloadN dVO_10 rfl ?_
    refine K.lconst (0 : Int64) dVO_11 rfl ?_
    refine K.lc_le dVO_12 dVO_13 (fun _ => ?_) (fun u => absurd (own_gt0 hx1) u)
    refine K.lloadN dVO_16 rfl ?_
    refine K.ldc2J dVO_17 (wd129 hw) ?_
    refine K.lc_gt dVO_20 dVO_21 (fun hc3 => ?_) (fun hc3 => ?_)
    · refine K.lloadN dVO_31 rfl ?_
      refine K.lconst (0 : Int64) dVO_32 rfl ?_
      refine K.lc_ge dVO_33 dVO_34 (fun u => absurd u (own_nlt0 h0)) (fun _ => ?_)
      refine K.newO 1 6 dVO_53 (wd102 hw) (wd103 hw) (wd94 hw) rfl rfl (by decide) (by decide) (fun h5 a4 ha6 g7 X8 A9 D10 => ?_)
      have ks_a4 := ha_ge K1.1 ha6
      have lt_pa_a4 : pa < a4 := by rw [ha6]; exact Ap.lt
      have K11 := K1.ext X8
      have S12 := Sz.ext X8
      have S13 := Sp.ext X8
      have I14 := Ap.ext X8
      have F15 : Fld Z h5 a4 "java/math/BigInteger" "signum" "I" (.int 0) := D10 (Or.inr (wd101 hw)) (ty := .int) (by decide)
      have F16 : Fld Z h5 a4 "java/math/BigInteger" "mag" "[I" .null := D10 (Or.inr (wd105 hw)) (ty := (.array .int)) (by decide)
      refine K.dup dVO_56 rfl ?_
      refine K.lloadN dVO_57 rfl ?_
      refine K.callI (a := a4) [.long x] [.ref a4] 1 2 8 dVO_58 rfl rfl (wd248 hw) (wd249 hw) (wd94 hw) (wd250 hw) (by decide) (rmBJ l Z a0 hw a4 x h5 n0 A9 F15 F16 g7 h0) rfl (lenOf pd_12 rfl) rfl (Nat.le_of_eq rfl) (by decide) (by decide) rfl rfl (by decide) (by decide) (goU fun h17 q18 => ?_)
      obtain ⟨K19, F20, m21, k22, gf23, g24, e25, F26, A27, bw28⟩ := q18
      have lt_a4_m21 : a4 < m21 := Nat.lt_of_lt_of_le A9.lt g24
      have lt_pa_m21 : pa < m21 := Nat.lt_of_lt_of_le I14.lt g24
      have ks29 := Nat.le_trans K11.1 g24
      have K30 := K11.trans K19 (allS (Or.inr ks_a4) all0)
      have S31 := staK S12 K19 (allS (plE A9) all0)
      have S32 := staK S13 K19 (allS (plE A9) all0)
      have I33 := I14.keep K19 (ninS (Nat.ne_of_lt lt_pa_a4) nin0)
      have E34 := A9.keep K19
      exact K.areturn dVO_61 rfl rfl rfl (by decide) (by decide) ⟨_, rfl, K30, Or.inr ⟨hx1, E34, F20, _, _, _, F26, A27, bw28⟩⟩
    · obtain ⟨i, hi1, hi2, ei, ex⟩ := own_ix hx1 hc3
      obtain ⟨t, m, g, et, T1, T2, T3, T4, T5⟩ := Hp i hi1 hi2
      refine K.getS dVO_24 (wd130 hw) Sp ?_
      refine K.lloadN dVO_27 rfl ?_
      refine K.l2i dVO_28 ?_
      rw [ei]
      refine K.aaload (v := .ref t) dVO_29 Ap rfl (own_nn (by omega)) ((own_lt (j := 17) (by omega) (by decide)).mpr (by omega)) et ?_
      exact K.areturn dVO_30 rfl rfl rfl (by decide) (by decide) ⟨_, rfl, K1, Or.inr ⟨hx1, T1.ext hold, T2.ext hold, m, 1, g, T3.ext hold, T4.ext hold, Or.inl ⟨rfl, T5.trans ex⟩⟩⟩
theorem rmPF (l : Launch) (Z : State) (a0 : Array Value) (hw : Hw Z a0) (x y v : Int32) (h : Heap) (n0 : Nat) (P0 : ¬ x < 0) (P1 : ¬ y < x) (P2 : ¬ v < y) : Con l Z ⟨"jdk/internal/util/Preconditions", "checkFromToIndex", "(IIILjava/util/function/BiFunction;)I"⟩ jdk_41_method_12_code 4 (some .int) ⟨0, 0, 0, 0⟩ #[.int x, .int y, .int v, .null] h n0 (fun vr h' => vr = some (.int x) ∧ h' = h) := by
  refine Con.of pnPF (fun m_ => efPF m_ x y v) (fun E K => ?_)
  refine K.iloadN dPF_0 rfl ?_
  refine K.if_lt dPF_1 (fun u => absurd u P0) (fun _ => ?_)
  refine K.iloadN dPF_4 rfl ?_
  refine K.iloadN dPF_5 rfl ?_
  refine K.ic_gt dPF_6 (fun u => absurd u P1) (fun _ => ?_)
  refine K.iloadN dPF_9 rfl ?_
  refine K.iloadN dPF_10 rfl ?_
  refine K.ic_le dPF_11 (fun u => absurd u P2) (fun _ => ?_)
  refine K.iloadN dPF_22 rfl ?_
  exact K.ireturn dPF_23 (Or.inl rfl) rfl (by decide) (by decide) ⟨rfl, rfl⟩
theorem rmOC (l : Launch) (Z : State) (a0 : Array Value) (hw : Hw Z a0) (x y v : Int32) (h : Heap) (n0 : Nat) (P0 : ¬ x < 0) (P1 : ¬ y < x) (P2 : ¬ v < y) : Con l Z ⟨"java/util/Objects", "checkFromToIndex", "(III)I"⟩ jdk_31_method_18_code 3 (some .int) ⟨1, 0, 0, 15⟩ #[.int x, .int y, .int v] h n0 (fun vr h' => vr = some (.int x) ∧ h' = h) := by
  refine Con.of pnOC (fun m_ => efOC m_ x y v) (fun E K => ?_)
  refine K.iloadN dOC_0 rfl ?_
  refine K.iloadN dOC_1 rfl ?_
  refine K.iloadN dOC_2 rfl ?_
  refine K.aconst_null dOC_3 ?_
  refine K.callS [.int x, .int y, .int v, .null] [] 0 0 0 dOC_4 (wd241 hw) (wd242 hw) (wd243 hw) (wd244 hw) (by decide) (rmPF l Z a0 hw x y v h n0 P0 P1 P2) rfl (lenOf pd_13 rfl) rfl (Nat.le_of_eq rfl) (by decide) (by decide) rfl rfl (by decide) (by decide) (goP ?_)
  exact K.ireturn dOC_7 (Or.inl rfl) rfl (by decide) (by decide) ⟨rfl, rfl⟩
theorem rmSW (l : Launch) (Z : State) (a0 : Array Value) (hw : Hw Z a0) (t m : Addr) (r : Int32) (h : Heap) (n0 : Nat)  : Con l Z ⟨"java/math/BigInteger", "shiftLeftImplWorker", "([I[IIII)V"⟩ jdk_2097_method_103_code 7 none ⟨0, 0, 0, 0⟩ #[.ref t, .ref m, .int 0, .int r, .int 0] h n0 (fun vr h' => vr = none ∧ h' = h) := by
  refine Con.of pnSW (fun m_ => efSW m_ t m (0 : Int32) r (0 : Int32)) (fun E K => ?_)
  refine K.bipush (32 : Int32) dSW_0 rfl ?_
  refine K.iloadN dSW_2 rfl ?_
  refine K.isub dSW_3 ?_
  refine K.istore #[oA t, oA m, oI (0 : Int32), oI r, oI (0 : Int32), oI ((32 : Int32) - r), oU] dSW_4 rfl ?_
  refine K.iconst (0 : Int32) dSW_6 rfl ?_
  refine K.istore #[oA t, oA m, oI (0 : Int32), oI r, oI (0 : Int32), oI ((32 : Int32) - r), oI (0 : Int32)] dSW_7 rfl ?_
  refine K.iload dSW_9 rfl ?_
  refine K.iload dSW_11 rfl ?_
  refine K.ic_ge dSW_13 (fun u => absurd u (by decide)) (fun _ => ?_)
  exact K.ret dSW_42 (by decide) (by decide) ⟨rfl, rfl⟩
theorem rmSI (l : Launch) (Z : State) (a0 : Array Value) (hw : Hw Z a0) (m : Addr) (n : Nat) (g1 : Nat → Int32) (h : Heap) (n0 : Nat) (PA : Ia Z h m .int (Int32.ofNat 1) (intF g1)) (e1 : uv (g1 0) = 1) (h63 : 63 ≤ n) (h126 : n ≤ 126) : Con l Z ⟨"java/math/BigInteger", "shiftLeft", "([II)[I"⟩ jdk_2097_method_102_code 10 (some (.array .int)) ⟨2, 1, 4, 29⟩ #[.ref m, .int (Int32.ofNat n)] h n0 (fun vr h' => ∃ t, vr = some (.ref t) ∧ (Keep h h' [] ∧ h.size ≤ t ∧ n0 ≤ t ∧ ∃ g : Nat → Int32, Ia Z h' t .int (Int32.ofNat (n / 32 + 1)) (intF g) ∧ uv (g 0) = ((2 ^ (n % 32) : Nat) : Int) ∧ g 1 = 0 ∧ g 2 = 0 ∧ g 3 = 0)) := by
  refine Con.of pnSI (fun m_ => efSI m_ m (Int32.ofNat n)) (fun E K => ?_)
  have K1 : Keep h h [] := Keep.refl _ _
  refine K.iloadN dSI_0 rfl ?_
  refine K.iconst (5 : Int32) dSI_1 rfl ?_
  refine K.iushr dSI_2 ?_
  rw [own_sh5 (n := n) (by omega)]
  refine K.istoreN #[oA m, oI (Int32.ofNat n), oI (Int32.ofNat (n / 32)), oU, oU, oU, oU, oU, oU, oU] dSI_3 rfl ?_
  refine K.iloadN dSI_4 rfl ?_
  refine K.bipush (31 : Int32) dSI_5 rfl ?_
  refine K.iand dSI_7 ?_
  rw [own_and31 (n := n) (by omega)]
  refine K.istoreN #[oA m, oI (Int32.ofNat n), oI (Int32.ofNat (n / 32)), oI (Int32.ofNat (n % 32)), oU, oU, oU, oU, oU, oU] dSI_8 rfl ?_
  refine K.aloadN dSI_9 rfl rfl ?_
  refine K.arraylength dSI_10 PA ?_
  refine K.istore #[oA m, oI (Int32.ofNat n), oI (Int32.ofNat (n / 32)), oI (Int32.ofNat (n % 32)), oI (Int32.ofNat 1), oU, oU, oU, oU, oU] dSI_11 rfl ?_
  refine K.aconst_null dSI_13 ?_
  refine K.astore #[oA m, oI (Int32.ofNat n), oI (Int32.ofNat (n / 32)), oI (Int32.ofNat (n % 32)), oI (Int32.ofNat 1), .val .null, oU, oU, oU, oU] dSI_14 rfl rfl ?_
  refine K.iloadN dSI_16 rfl ?_
  refine K.if_ne dSI_17 (fun hc2 => ?_) (fun hc2 => ?_)
  · have hr : n % 32 = 0 := own_inj (j := 0) (by omega) (by decide) hc2
    refine K.iload dSI_20 rfl ?_
    refine K.iloadN dSI_22 rfl ?_
    refine K.iadd dSI_23 ?_
    rw [own_1p]
    refine K.newP (ty := .int) (dv := .int 0) 4 1 4 dSI_24 (wd109 hw) rfl rfl (own_nn (by omega)) (by rw [clamp_of rfl (by omega)]; omega) (by decide) rfl rfl (by decide) (by decide) (fun h4 a3 ha5 g6 X7 A8 => ?_)
    have ks_a3 := ha_ge K1.1 ha5
    have lt_m_a3 : m < a3 := by rw [ha5]; exact PA.lt
    have K9 := K1.ext X7
    have I10 := PA.ext X7
    refine K.astore #[oA m, oI (Int32.ofNat n), oI (Int32.ofNat (n / 32)), oI (Int32.ofNat (n % 32)), oI (Int32.ofNat 1), oA a3, oU, oU, oU, oU] dSI_26 rfl rfl ?_
    refine K.aloadN dSI_28 rfl rfl ?_
    refine K.iconst (0 : Int32) dSI_29 rfl ?_
    refine K.aload dSI_30 rfl rfl ?_
    refine K.iconst (0 : Int32) dSI_32 rfl ?_
    refine K.iload dSI_33 rfl ?_
    refine K.copyI 0 dSI_35 (wd110 hw) (wd113 hw) (wd111 hw) (wd112 hw) I10 (intF_int g1) A8 zero_int (by decide) (by omega) (Nat.le_refl _) (by omega) g6 rfl (by decide) (Nat.le_of_eq rfl) (by decide) (fun h11 K12 A13 => ?_)
    have K14 := K9.trans K12 (allS (Or.inr ks_a3) all0)
    have I15 := I10.keep K12 (ninS (Nat.ne_of_lt lt_m_a3) nin0)
    refine K.goto dSI_38 ?_
    refine K.aload dSI_152 rfl rfl ?_
    obtain ⟨gf16, A17, E18⟩ := own_toF A13 (own_ifN (intF_int g1) zero_int 1)
    have ev19 : gf16 0 = g1 0 := Value.int.inj ((E18 0).symm)
    have ev20 : gf16 1 = 0 := Value.int.inj ((E18 1).symm)
    have ev21 : gf16 2 = 0 := Value.int.inj ((E18 2).symm)
    have ev22 : gf16 3 = 0 := Value.int.inj ((E18 3).symm)
    exact K.areturn dSI_154 rfl rfl rfl (by decide) (by decide) ⟨_, rfl, K14, ks_a3, g6, _, A17, (by rw [ev19]; exact (by rw [hr]; exact e1)), ev20, ev21, ev22⟩
  · have hr : 1 ≤ n % 32 := Nat.pos_of_ne_zero (fun q => hc2 (by rw [q]; rfl))
    refine K.iconst (0 : Int32) dSI_41 rfl ?_
    refine K.istore #[oA m, oI (Int32.ofNat n), oI (Int32.ofNat (n / 32)), oI (Int32.ofNat (n % 32)), oI (Int32.ofNat 1), .val .null, oI (0 : Int32), oU, oU, oU] dSI_42 rfl ?_
    refine K.bipush (32 : Int32) dSI_44 rfl ?_
    refine K.iloadN dSI_46 rfl ?_
    refine K.isub dSI_47 ?_
    refine K.istore #[oA m, oI (Int32.ofNat n), oI (Int32.ofNat (n / 32)), oI (Int32.ofNat (n % 32)), oI (Int32.ofNat 1), .val .null, oI (0 : Int32), oI ((32 : Int32) - (Int32.ofNat (n % 32))), oU, oU] dSI_48 rfl ?_
    refine K.aloadN dSI_50 rfl rfl ?_
    refine K.iconst (0 : Int32) dSI_51 rfl ?_
    refine K.iaload (v := .int (g1 0)) dSI_52 PA (by decide) (by decide) rfl ?_
    refine K.iload dSI_53 rfl ?_
    refine K.iushr dSI_55 ?_
    rw [own_hb e1 hr (by omega)]
    refine K.istore #[oA m, oI (Int32.ofNat n), oI (Int32.ofNat (n / 32)), oI (Int32.ofNat (n % 32)), oI (Int32.ofNat 1), .val .null, oI (0 : Int32), oI ((32 : Int32) - (Int32.ofNat (n % 32))), oI (0 : Int32), oU] dSI_56 rfl ?_
    refine K.iload dSI_58 rfl ?_
    refine K.if_eq dSI_60 (fun _ => ?_) (fun u => absurd rfl u)
    refine K.iload dSI_86 rfl ?_
    refine K.iloadN dSI_88 rfl ?_
    refine K.iadd dSI_89 ?_
    rw [own_1p]
    refine K.newP (ty := .int) (dv := .int 0) 4 1 4 dSI_90 (wd109 hw) rfl rfl (own_nn (by omega)) (by rw [clamp_of rfl (by omega)]; omega) (by decide) rfl rfl (by decide) (by decide) (fun h24 a23 ha25 g26 X27 A28 => ?_)
    have ks_a23 := ha_ge K1.1 ha25
    have lt_m_a23 : m < a23 := by rw [ha25]; exact PA.lt
    have K29 := K1.ext X27
    have I30 := PA.ext X27
    refine K.astore #[oA m, oI (Int32.ofNat n), oI (Int32.ofNat (n / 32)), oI (Int32.ofNat (n % 32)), oI (Int32.ofNat 1), oA a23, oI (0 : Int32), oI ((32 : Int32) - (Int32.ofNat (n % 32))), oI (0 : Int32), oU] dSI_92 rfl rfl ?_
    refine K.iload dSI_94 rfl ?_
    refine K.iconst (1 : Int32) dSI_96 rfl ?_
    refine K.isub dSI_97 ?_
    show Wk E h24 1 4 98 #[oA m, oI (Int32.ofNat n), oI (Int32.ofNat (n / 32)), oI (Int32.ofNat (n % 32)), oI (Int32.ofNat 1), oA a23, oI (0 : Int32), oI ((32 : Int32) - (Int32.ofNat (n % 32))), oI (0 : Int32), oU] [.int 0]
    refine K.istore #[oA m, oI (Int32.ofNat n), oI (Int32.ofNat (n / 32)), oI (Int32.ofNat (n % 32)), oI (Int32.ofNat 1), oA a23, oI (0 : Int32), oI ((32 : Int32) - (Int32.ofNat (n % 32))), oI (0 : Int32), oI (0 : Int32)] dSI_98 rfl ?_
    refine K.iconst (0 : Int32) dSI_100 rfl ?_
    refine K.iload dSI_101 rfl ?_
    refine K.iconst (1 : Int32) dSI_103 rfl ?_
    refine K.iadd dSI_104 ?_
    show Wk E h24 1 4 105 #[oA m, oI (Int32.ofNat n), oI (Int32.ofNat (n / 32)), oI (Int32.ofNat (n % 32)), oI (Int32.ofNat 1), oA a23, oI (0 : Int32), oI ((32 : Int32) - (Int32.ofNat (n % 32))), oI (0 : Int32), oI (0 : Int32)] [.int 1, .int 0]
    refine K.aloadN dSI_105 rfl rfl ?_
    refine K.arraylength dSI_106 I30 ?_
    refine K.callS [.int 0, .int 1, .int (Int32.ofNat 1)] [] 0 1 4 dSI_107 (wd237 hw) (wd238 hw) (wd239 hw) (wd240 hw) (by decide) (rmOC l Z a0 hw (0 : Int32) (1 : Int32) (Int32.ofNat 1) h24 n0 (by decide) (by decide) (by decide)) rfl (lenOf pd_14 rfl) rfl (Nat.le_of_eq rfl) (by decide) (by decide) rfl rfl (by decide) (by decide) (goP ?_)
    refine K.pop dSI_110 rfl ?_
    refine K.iload dSI_111 rfl ?_
    refine K.iload dSI_113 rfl ?_
    refine K.iload dSI_115 rfl ?_
    refine K.iadd dSI_117 ?_
    refine K.iconst (1 : Int32) dSI_118 rfl ?_
    refine K.iadd dSI_119 ?_
    show Wk E h24 1 4 120 #[oA m, oI (Int32.ofNat n), oI (Int32.ofNat (n / 32)), oI (Int32.ofNat (n % 32)), oI (Int32.ofNat 1), oA a23, oI (0 : Int32), oI ((32 : Int32) - (Int32.ofNat (n % 32))), oI (0 : Int32), oI (0 : Int32)] [.int 1, .int 0]
    refine K.aload dSI_120 rfl rfl ?_
    refine K.arraylength dSI_122 A28 ?_
    refine K.callS [.int 0, .int 1, .int (Int32.ofNat (n / 32 + 1))] [] 0 1 4 dSI_123 (wd237 hw) (wd238 hw) (wd239 hw) (wd240 hw) (by decide) (rmOC l Z a0 hw (0 : Int32) (1 : Int32) (Int32.ofNat (n / 32 + 1)) h24 n0 (by decide) (by decide) (fun q => absurd ((own_lt (j := 1) (by omega) (by decide)).mp q) (by omega))) rfl (lenOf pd_14 rfl) rfl (Nat.le_of_eq rfl) (by decide) (by decide) rfl rfl (by decide) (by decide) (goP ?_)
    refine K.pop dSI_126 rfl ?_
    refine K.aload dSI_127 rfl rfl ?_
    refine K.aloadN dSI_129 rfl rfl ?_
    refine K.iload dSI_130 rfl ?_
    refine K.iloadN dSI_132 rfl ?_
    refine K.iload dSI_133 rfl ?_
    refine K.callS [.ref a23, .ref m, .int 0, .int (Int32.ofNat (n % 32)), .int 0] [] 0 1 4 dSI_135 (wd245 hw) (wd246 hw) (wd94 hw) (wd247 hw) (by decide) (rmSW l Z a0 hw a23 m (Int32.ofNat (n % 32)) h24 n0 ) rfl (lenOf pd_15 rfl) rfl (Nat.le_of_eq rfl) (by decide) (by decide) rfl rfl (by decide) (by decide) (goN ?_)
    refine K.aload dSI_138 rfl rfl ?_
    refine K.iload dSI_140 rfl ?_
    refine K.iload dSI_142 rfl ?_
    refine K.iadd dSI_144 ?_
    show Wk E h24 1 4 145 #[oA m, oI (Int32.ofNat n), oI (Int32.ofNat (n / 32)), oI (Int32.ofNat (n % 32)), oI (Int32.ofNat 1), oA a23, oI (0 : Int32), oI ((32 : Int32) - (Int32.ofNat (n % 32))), oI (0 : Int32), oI (0 : Int32)] [.int 0, .ref a23]
    refine K.aloadN dSI_145 rfl rfl ?_
    refine K.iload dSI_146 rfl ?_
    refine K.iaload (v := .int (g1 0)) dSI_148 I30 (by decide) (by decide) rfl ?_
    refine K.iloadN dSI_149 rfl ?_
    refine K.ishl dSI_150 ?_
    refine K.iastore dSI_151 A28 (by decide) ((own_lt (i := 0) (by decide) (by omega)).mpr (by omega)) g26 (fun h31 W32 A33 => ?_)
    have K34 := K29.wr W32 (Or.inr ks_a23)
    have I35 := I30.other W32 (Nat.ne_of_lt lt_m_a23)
    refine K.aload dSI_152 rfl rfl ?_
    obtain ⟨gf36, A37, E38⟩ := own_toF A33 (own_ifI zero_int _ _)
    have ev39 : gf36 0 = (g1 0) <<< ((Int32.ofNat (n % 32)) &&& 31) := Value.int.inj ((E38 0).symm)
    have ev40 : gf36 1 = 0 := Value.int.inj ((E38 1).symm)
    have ev41 : gf36 2 = 0 := Value.int.inj ((E38 2).symm)
    have ev42 : gf36 3 = 0 := Value.int.inj ((E38 3).symm)
    exact K.areturn dSI_154 rfl rfl rfl (by decide) (by decide) ⟨_, rfl, K34, ks_a23, g26, _, A37, (by rw [ev39]; exact (own_pw e1 (by omega))), ev40, ev41, ev42⟩
theorem rmSL (l : Launch) (Z : State) (a0 : Array Value) (hw : Hw Z a0) (a m : Addr) (n : Nat) (g1 : Nat → Int32) (h : Heap) (n0 : Nat) (P1 : Fld Z h a "java/math/BigInteger" "signum" "I" (.int 1)) (P2 : Fld Z h a "java/math/BigInteger" "mag" "[I" (.ref m)) (PA : Ia Z h m .int (Int32.ofNat 1) (intF g1)) (e1 : uv (g1 0) = 1) (h63 : 63 ≤ n) (h126 : n ≤ 126) : Con l Z ⟨"java/math/BigInteger", "shiftLeft", "(I)Ljava/math/BigInteger;"⟩ jdk_2097_method_101_code 2 (some (.object "java/math/BigInteger")) ⟨3, 2, 10, 52⟩ #[.ref a, .int (Int32.ofNat n)] h n0 (fun vr h' => ∃ t, vr = some (.ref t) ∧ (Keep h h' [] ∧ Exa Z h' t "java/math/BigInteger" ∧ Fld Z h' t "java/math/BigInteger" "signum" "I" (.int 1) ∧ ∃ (m_ : Addr) (k_ : Nat) (g_ : Nat → Int32), Fld Z h' t "java/math/BigInteger" "mag" "[I" (.ref m_) ∧ Ia Z h' m_ .int (Int32.ofNat k_) (intF g_) ∧ (k_ = n / 32 + 1 ∧ uv (g_ 0) = ((2 ^ (n % 32) : Nat) : Int) ∧ g_ 1 = 0 ∧ g_ 2 = 0 ∧ g_ 3 = 0))) := by
  refine Con.of pnSL (fun m_ => efSL m_ a (Int32.ofNat n)) (fun E K => ?_)
  have K1 : Keep h h [] := Keep.refl _ _
  refine K.aloadN dSL_0 rfl rfl ?_
  refine K.getF dSL_1 (wd100 hw) P1 ?_
  refine K.if_ne dSL_4 (fun u => absurd u (by decide)) (fun _ => ?_)
  refine K.iloadN dSL_11 rfl ?_
  refine K.if_le dSL_12 (fun _ => ?_) (fun u => absurd ((own_lt (i := 0) (by decide) (by omega)).mpr (by omega)) u)
  refine K.newO 1 6 dSL_15 (wd102 hw) (wd103 hw) (wd94 hw) rfl rfl (by decide) (by decide) (fun h3 a2 ha4 g5 X6 A7 D8 => ?_)
  have ks_a2 := ha_ge K1.1 ha4
  have lt_a_a2 : a < a2 := by rw [ha4]; exact P1.lt
  have lt_m_a2 : m < a2 := by rw [ha4]; exact PA.lt
  have K9 := K1.ext X6
  have F10 := P1.ext X6
  have F11 := P2.ext X6
  have I12 := PA.ext X6
  have F13 : Fld Z h3 a2 "java/math/BigInteger" "signum" "I" (.int 0) := D8 (Or.inr (wd101 hw)) (ty := .int) (by decide)
  have F14 : Fld Z h3 a2 "java/math/BigInteger" "mag" "[I" .null := D8 (Or.inr (wd105 hw)) (ty := (.array .int)) (by decide)
  refine K.dup dSL_18 rfl ?_
  refine K.aloadN dSL_19 rfl rfl ?_
  refine K.getF dSL_20 (wd104 hw) F11 ?_
  refine K.iloadN dSL_23 rfl ?_
  refine K.callS [.ref m, .int (Int32.ofNat n)] [.ref a2, .ref a2] 2 2 10 dSL_24 (wd106 hw) (wd107 hw) (wd94 hw) (wd108 hw) (by decide) (rmSI l Z a0 hw m n g1 h3 n0 I12 e1 h63 h126) rfl (lenOf pd_16 rfl) rfl (Nat.le_of_eq rfl) (by decide) (by decide) rfl rfl (by decide) (by decide) (goR fun t15 h16 q17 => ?_)
  obtain ⟨K18, g19, e20, gf21, A22, cn23⟩ := q17
  have lt_a_t15 : a < t15 := Nat.lt_of_lt_of_le F10.lt g19
  have lt_a2_t15 : a2 < t15 := Nat.lt_of_lt_of_le A7.lt g19
  have lt_m_t15 : m < t15 := Nat.lt_of_lt_of_le I12.lt g19
  have ks24 := Nat.le_trans K9.1 g19
  have K25 := K9.trans K18 all0
  have F26 := F10.keep K18 nin0
  have F27 := F11.keep K18 nin0
  have I28 := I12.keep K18 nin0
  have E29 := A7.keep K18
  have F30 := F13.keep K18 nin0
  have F31 := F14.keep K18 nin0
  refine K.aloadN dSL_27 rfl rfl ?_
  refine K.getF dSL_28 (wd100 hw) F26 ?_
  refine K.callI (a := a2) [.ref t15, .int 1] [.ref a2] 1 2 10 dSL_31 rfl rfl (wd114 hw) (wd115 hw) (wd94 hw) (wd117 hw) (by decide) (rmBM l Z a0 hw a2 t15 (n / 32 + 1) (intF gf21) h16 n0 E29 F30 F31 A22 g5 (Nat.ne_of_gt lt_a2_t15) (by omega) (by omega)) rfl (lenOf pd_10 rfl) rfl (Nat.le_of_eq rfl) (by decide) (by decide) rfl rfl (by decide) (by decide) (goU fun h32 q33 => ?_)
  obtain ⟨K34, F35, F36⟩ := q33
  have K37 := K25.trans K34 (allS (Or.inr ks_a2) all0)
  have F38 := F26.keep K34 (ninS (Nat.ne_of_lt lt_a_a2) nin0)
  have F39 := F27.keep K34 (ninS (Nat.ne_of_lt lt_a_a2) nin0)
  have I40 := I28.keep K34 (ninS (Nat.ne_of_lt lt_m_a2) nin0)
  have E41 := E29.keep K34
  have I42 := A22.keep K34 (ninS (Nat.ne_of_gt lt_a2_t15) nin0)
  exact K.areturn dSL_34 rfl rfl rfl (by decide) (by decide) ⟨_, rfl, K37, E41, F35, _, _, _, F36, I42, rfl, cn23⟩
theorem rmAI (l : Launch) (Z : State) (a0 : Array Value) (hw : Hw Z a0) (x y : Addr) (ka kb : Nat) (ga gb : Nat → Int32) (h : Heap) (n0 : Nat) (PX : Ia Z h x .int (Int32.ofNat ka) (intF ga)) (PY : Ia Z h y .int (Int32.ofNat kb) (intF gb)) (hk : ka = 3 ∧ kb = 1 ∨ ka = 4 ∧ kb = 2) (z1 : ga 1 = 0) (z2 : ga 2 = 0) (z3 : ga 3 = 0) : Con l Z ⟨"java/math/BigInteger", "add", "([I[I)[I"⟩ jdk_2097_method_35_code 9 (some (.array .int)) ⟨0, 1, 4, 0⟩ #[.ref x, .ref y] h n0 (fun vr h' => ∃ t, vr = some (.ref t) ∧ (Keep h h' [] ∧ h.size ≤ t ∧ n0 ≤ t ∧ ∃ g : Nat → Int32, Ia Z h' t .int (Int32.ofNat ka) (intF g) ∧ g 0 = ga 0)) := by
  refine Con.of pnAI (fun m_ => efAI m_ x y) (fun E K => ?_)
  have K1 : Keep h h [] := Keep.refl _ _
  rcases hk with ⟨rfl, rfl⟩ | ⟨rfl, rfl⟩
  · refine K.aloadN dAI_0 rfl rfl ?_
    refine K.arraylength dAI_1 PX ?_
    refine K.aloadN dAI_2 rfl rfl ?_
    refine K.arraylength dAI_3 PY ?_
    refine K.ic_ge dAI_4 (fun u => absurd u (by decide)) (fun _ => ?_)
    refine K.aloadN dAI_13 rfl rfl ?_
    refine K.arraylength dAI_14 PX ?_
    refine K.istoreN #[oA x, oA y, oI (Int32.ofNat 3), oU, oU, oU, oU, oU, oU] dAI_15 rfl ?_
    refine K.aloadN dAI_16 rfl rfl ?_
    refine K.arraylength dAI_17 PY ?_
    refine K.istoreN #[oA x, oA y, oI (Int32.ofNat 3), oI (Int32.ofNat 1), oU, oU, oU, oU, oU] dAI_18 rfl ?_
    refine K.iloadN dAI_19 rfl ?_
    refine K.newP (ty := .int) (dv := .int 0) 4 1 4 dAI_20 (wd109 hw) rfl rfl (by decide) (by decide) (by decide) rfl rfl (by decide) (by decide) (fun h3 a2 ha4 g5 X6 A7 => ?_)
    have ks_a2 := ha_ge K1.1 ha4
    have lt_x_a2 : x < a2 := by rw [ha4]; exact PX.lt
    have lt_y_a2 : y < a2 := by rw [ha4]; exact PY.lt
    have K8 := K1.ext X6
    have I9 := PX.ext X6
    have I10 := PY.ext X6
    refine K.astore #[oA x, oA y, oI (Int32.ofNat 3), oI (Int32.ofNat 1), oA a2, oU, oU, oU, oU] dAI_22 rfl rfl ?_
    refine K.lconst (0 : Int64) dAI_24 rfl ?_
    refine K.lstore #[oA x, oA y, oI (Int32.ofNat 3), oI (Int32.ofNat 1), oA a2, oJ (0 : Int64), oT, oU, oU] dAI_25 rfl ?_
    refine K.iloadN dAI_27 rfl ?_
    refine K.iconst (1 : Int32) dAI_28 rfl ?_
    refine K.ic_ne dAI_29 (fun _ => ?_) (fun u => absurd (by decide) u)
    refine K.aloadN dAI_32 rfl rfl ?_
    refine K.iinc ((2 : Int32)) #[oA x, oA y, oI (2 : Int32), oI (Int32.ofNat 1), oA a2, oJ (0 : Int64), oT, oU, oU] dAI_33 rfl rfl rfl ?_
    refine K.iloadN dAI_36 rfl ?_
    refine K.iaload (v := .int (ga 2)) dAI_37 I9 (by decide) (by decide) rfl ?_
    refine K.i2l dAI_38 ?_
    refine K.ldc2J dAI_39 (wd139 hw) ?_
    refine K.land dAI_42 ?_
    refine K.aloadN dAI_43 rfl rfl ?_
    refine K.iconst (0 : Int32) dAI_44 rfl ?_
    refine K.iaload (v := .int (gb 0)) dAI_45 I10 (by decide) (by decide) rfl ?_
    refine K.i2l dAI_46 ?_
    refine K.ldc2J dAI_47 (wd139 hw) ?_
    refine K.land dAI_50 ?_
    refine K.ladd dAI_51 ?_
    obtain ⟨sm, esm⟩ : ∃ x_ : Int64, x_ = (((ga 2).toInt64) &&& (4294967295 : Int64)) + (((gb 0).toInt64) &&& (4294967295 : Int64)) := ⟨_, rfl⟩
    rw [← esm]
    refine K.lstore #[oA x, oA y, oI (2 : Int32), oI (Int32.ofNat 1), oA a2, oJ sm, oT, oU, oU] dAI_52 rfl ?_
    refine K.aload dAI_54 rfl rfl ?_
    refine K.iloadN dAI_56 rfl ?_
    refine K.lload dAI_57 rfl ?_
    refine K.l2i dAI_59 ?_
    refine K.iastore dAI_60 A7 (by decide) (by decide) g5 (fun h11 W12 A13 => ?_)
    have K14 := K8.wr W12 (Or.inr ks_a2)
    have I15 := I9.other W12 (Nat.ne_of_lt lt_x_a2)
    have I16 := I10.other W12 (Nat.ne_of_lt lt_y_a2)
    refine K.goto dAI_61 ?_
    refine K.lload dAI_109 rfl ?_
    refine K.bipush (32 : Int32) dAI_111 rfl ?_
    refine K.lushr dAI_113 ?_
    refine K.lconst (0 : Int64) dAI_114 rfl ?_
    refine K.lc_eq dAI_115 dAI_116 (fun _ => ?_) (fun u => absurd (by rw [esm]; exact own_s1 _ z2) u)
    refine K.iconst (0 : Int32) dAI_123 rfl ?_
    refine K.istore #[oA x, oA y, oI (2 : Int32), oI (Int32.ofNat 1), oA a2, oJ sm, oT, oI (0 : Int32), oU] dAI_124 rfl ?_
    refine K.iloadN dAI_126 rfl ?_
    refine K.if_le dAI_127 (fun _ => ?_) (fun u => absurd (by decide) u)
    refine K.iload dAI_130 rfl ?_
    refine K.if_eq dAI_132 (fun _ => ?_) (fun u => absurd rfl u)
    refine K.iloadN dAI_161 rfl ?_
    refine K.if_le dAI_162 (fun _ => ?_) (fun u => absurd (by decide) u)
    refine K.aload dAI_165 rfl rfl ?_
    refine K.iinc ((1 : Int32)) #[oA x, oA y, oI (1 : Int32), oI (Int32.ofNat 1), oA a2, oJ sm, oT, oI (0 : Int32), oU] dAI_167 rfl rfl rfl ?_
    refine K.iloadN dAI_170 rfl ?_
    refine K.aloadN dAI_171 rfl rfl ?_
    refine K.iloadN dAI_172 rfl ?_
    refine K.iaload (v := .int (ga 1)) dAI_173 I15 (by decide) (by decide) rfl ?_
    refine K.iastore dAI_174 A13 (by decide) (by decide) g5 (fun h17 W18 A19 => ?_)
    have K20 := K14.wr W18 (Or.inr ks_a2)
    have I21 := I15.other W18 (Nat.ne_of_lt lt_x_a2)
    have I22 := I16.other W18 (Nat.ne_of_lt lt_y_a2)
    refine K.goto dAI_175 ?_
    refine K.iloadN dAI_161 rfl ?_
    refine K.if_le dAI_162 (fun _ => ?_) (fun u => absurd (by decide) u)
    refine K.aload dAI_165 rfl rfl ?_
    refine K.iinc ((0 : Int32)) #[oA x, oA y, oI (0 : Int32), oI (Int32.ofNat 1), oA a2, oJ sm, oT, oI (0 : Int32), oU] dAI_167 rfl rfl rfl ?_
    refine K.iloadN dAI_170 rfl ?_
    refine K.aloadN dAI_171 rfl rfl ?_
    refine K.iloadN dAI_172 rfl ?_
    refine K.iaload (v := .int (ga 0)) dAI_173 I21 (by decide) (by decide) rfl ?_
    refine K.iastore dAI_174 A19 (by decide) (by decide) g5 (fun h23 W24 A25 => ?_)
    have K26 := K20.wr W24 (Or.inr ks_a2)
    have I27 := I21.other W24 (Nat.ne_of_lt lt_x_a2)
    have I28 := I22.other W24 (Nat.ne_of_lt lt_y_a2)
    refine K.goto dAI_175 ?_
    refine K.iloadN dAI_161 rfl ?_
    refine K.if_le dAI_162 (fun u => absurd u (by decide)) (fun _ => ?_)
    refine K.iload dAI_178 rfl ?_
    refine K.if_eq dAI_180 (fun _ => ?_) (fun u => absurd rfl u)
    refine K.aload dAI_212 rfl rfl ?_
    obtain ⟨gf29, A30, E31⟩ := own_toF A25 (own_ifI (own_ifI (own_ifI zero_int _ _) _ _) _ _)
    have ev32 : gf29 0 = ga 0 := Value.int.inj ((E31 0).symm)
    exact K.areturn dAI_214 rfl rfl rfl (by decide) (by decide) ⟨_, rfl, K26, ks_a2, g5, _, A30, ev32⟩
  · refine K.aloadN dAI_0 rfl rfl ?_
    refine K.arraylength dAI_1 PX ?_
    refine K.aloadN dAI_2 rfl rfl ?_
    refine K.arraylength dAI_3 PY ?_
    refine K.ic_ge dAI_4 (fun u => absurd u (by decide)) (fun _ => ?_)
    refine K.aloadN dAI_13 rfl rfl ?_
    refine K.arraylength dAI_14 PX ?_
    refine K.istoreN #[oA x, oA y, oI (Int32.ofNat 4), oU, oU, oU, oU, oU, oU] dAI_15 rfl ?_
    refine K.aloadN dAI_16 rfl rfl ?_
    refine K.arraylength dAI_17 PY ?_
    refine K.istoreN #[oA x, oA y, oI (Int32.ofNat 4), oI (Int32.ofNat 2), oU, oU, oU, oU, oU] dAI_18 rfl ?_
    refine K.iloadN dAI_19 rfl ?_
    refine K.newP (ty := .int) (dv := .int 0) 4 1 4 dAI_20 (wd109 hw) rfl rfl (by decide) (by decide) (by decide) rfl rfl (by decide) (by decide) (fun h34 a33 ha35 g36 X37 A38 => ?_)
    have ks_a33 := ha_ge K1.1 ha35
    have lt_x_a33 : x < a33 := by rw [ha35]; exact PX.lt
    have lt_y_a33 : y < a33 := by rw [ha35]; exact PY.lt
    have K39 := K1.ext X37
    have I40 := PX.ext X37
    have I41 := PY.ext X37
    refine K.astore #[oA x, oA y, oI (Int32.ofNat 4), oI (Int32.ofNat 2), oA a33, oU, oU, oU, oU] dAI_22 rfl rfl ?_
    refine K.lconst (0 : Int64) dAI_24 rfl ?_
    refine K.lstore #[oA x, oA y, oI (Int32.ofNat 4), oI (Int32.ofNat 2), oA a33, oJ (0 : Int64), oT, oU, oU] dAI_25 rfl ?_
    refine K.iloadN dAI_27 rfl ?_
    refine K.iconst (1 : Int32) dAI_28 rfl ?_
    refine K.ic_ne dAI_29 (fun u => absurd u (by decide)) (fun _ => ?_)
    refine K.iloadN dAI_64 rfl ?_
    refine K.if_le dAI_65 (fun _ => ?_) (fun u => absurd (by decide) u)
    refine K.aloadN dAI_68 rfl rfl ?_
    refine K.iinc ((3 : Int32)) #[oA x, oA y, oI (3 : Int32), oI (Int32.ofNat 2), oA a33, oJ (0 : Int64), oT, oU, oU] dAI_69 rfl rfl rfl ?_
    refine K.iloadN dAI_72 rfl ?_
    refine K.iaload (v := .int (ga 3)) dAI_73 I40 (by decide) (by decide) rfl ?_
    refine K.i2l dAI_74 ?_
    refine K.ldc2J dAI_75 (wd139 hw) ?_
    refine K.land dAI_78 ?_
    refine K.aloadN dAI_79 rfl rfl ?_
    refine K.iinc ((1 : Int32)) #[oA x, oA y, oI (3 : Int32), oI (1 : Int32), oA a33, oJ (0 : Int64), oT, oU, oU] dAI_80 rfl rfl rfl ?_
    refine K.iloadN dAI_83 rfl ?_
    refine K.iaload (v := .int (gb 1)) dAI_84 I41 (by decide) (by decide) rfl ?_
    refine K.i2l dAI_85 ?_
    refine K.ldc2J dAI_86 (wd139 hw) ?_
    refine K.land dAI_89 ?_
    refine K.ladd dAI_90 ?_
    refine K.lload dAI_91 rfl ?_
    refine K.bipush (32 : Int32) dAI_93 rfl ?_
    refine K.lushr dAI_95 ?_
    refine K.ladd dAI_96 ?_
    obtain ⟨sm1, esm1⟩ : ∃ x_ : Int64, x_ = ((((ga 3).toInt64) &&& (4294967295 : Int64)) + (((gb 1).toInt64) &&& (4294967295 : Int64))) + (((0 : Int64).toUInt64 >>> ((32 : Int32) &&& 63).toInt64.toUInt64).toInt64) := ⟨_, rfl⟩
    rw [← esm1]
    refine K.lstore #[oA x, oA y, oI (3 : Int32), oI (1 : Int32), oA a33, oJ sm1, oT, oU, oU] dAI_97 rfl ?_
    refine K.aload dAI_99 rfl rfl ?_
    refine K.iloadN dAI_101 rfl ?_
    refine K.lload dAI_102 rfl ?_
    refine K.l2i dAI_104 ?_
    refine K.iastore dAI_105 A38 (by decide) (by decide) g36 (fun h42 W43 A44 => ?_)
    have K45 := K39.wr W43 (Or.inr ks_a33)
    have I46 := I40.other W43 (Nat.ne_of_lt lt_x_a33)
    have I47 := I41.other W43 (Nat.ne_of_lt lt_y_a33)
    refine K.goto dAI_106 ?_
    refine K.iloadN dAI_64 rfl ?_
    refine K.if_le dAI_65 (fun _ => ?_) (fun u => absurd (by decide) u)
    refine K.aloadN dAI_68 rfl rfl ?_
    refine K.iinc ((2 : Int32)) #[oA x, oA y, oI (2 : Int32), oI (1 : Int32), oA a33, oJ sm1, oT, oU, oU] dAI_69 rfl rfl rfl ?_
    refine K.iloadN dAI_72 rfl ?_
    refine K.iaload (v := .int (ga 2)) dAI_73 I46 (by decide) (by decide) rfl ?_
    refine K.i2l dAI_74 ?_
    refine K.ldc2J dAI_75 (wd139 hw) ?_
    refine K.land dAI_78 ?_
    refine K.aloadN dAI_79 rfl rfl ?_
    refine K.iinc ((0 : Int32)) #[oA x, oA y, oI (2 : Int32), oI (0 : Int32), oA a33, oJ sm1, oT, oU, oU] dAI_80 rfl rfl rfl ?_
    refine K.iloadN dAI_83 rfl ?_
    refine K.iaload (v := .int (gb 0)) dAI_84 I47 (by decide) (by decide) rfl ?_
    refine K.i2l dAI_85 ?_
    refine K.ldc2J dAI_86 (wd139 hw) ?_
    refine K.land dAI_89 ?_
    refine K.ladd dAI_90 ?_
    refine K.lload dAI_91 rfl ?_
    refine K.bipush (32 : Int32) dAI_93 rfl ?_
    refine K.lushr dAI_95 ?_
    refine K.ladd dAI_96 ?_
    obtain ⟨sm0, esm0⟩ : ∃ x_ : Int64, x_ = ((((ga 2).toInt64) &&& (4294967295 : Int64)) + (((gb 0).toInt64) &&& (4294967295 : Int64))) + ((sm1.toUInt64 >>> ((32 : Int32) &&& 63).toInt64.toUInt64).toInt64) := ⟨_, rfl⟩
    rw [← esm0]
    refine K.lstore #[oA x, oA y, oI (2 : Int32), oI (0 : Int32), oA a33, oJ sm0, oT, oU, oU] dAI_97 rfl ?_
    refine K.aload dAI_99 rfl rfl ?_
    refine K.iloadN dAI_101 rfl ?_
    refine K.lload dAI_102 rfl ?_
    refine K.l2i dAI_104 ?_
    refine K.iastore dAI_105 A44 (by decide) (by decide) g36 (fun h48 W49 A50 => ?_)
    have K51 := K45.wr W49 (Or.inr ks_a33)
    have I52 := I46.other W49 (Nat.ne_of_lt lt_x_a33)
    have I53 := I47.other W49 (Nat.ne_of_lt lt_y_a33)
    refine K.goto dAI_106 ?_
    refine K.iloadN dAI_64 rfl ?_
    refine K.if_le dAI_65 (fun u => absurd u (by decide)) (fun _ => ?_)
    refine K.lload dAI_109 rfl ?_
    refine K.bipush (32 : Int32) dAI_111 rfl ?_
    refine K.lushr dAI_113 ?_
    refine K.lconst (0 : Int64) dAI_114 rfl ?_
    refine K.lc_eq dAI_115 dAI_116 (fun _ => ?_) (fun u => absurd (by rw [esm0]; exact own_s2 _ z2 (by rw [esm1]; exact own_s2 _ z3 rfl)) u)
    refine K.iconst (0 : Int32) dAI_123 rfl ?_
    refine K.istore #[oA x, oA y, oI (2 : Int32), oI (0 : Int32), oA a33, oJ sm0, oT, oI (0 : Int32), oU] dAI_124 rfl ?_
    refine K.iloadN dAI_126 rfl ?_
    refine K.if_le dAI_127 (fun _ => ?_) (fun u => absurd (by decide) u)
    refine K.iload dAI_130 rfl ?_
    refine K.if_eq dAI_132 (fun _ => ?_) (fun u => absurd rfl u)
    refine K.iloadN dAI_161 rfl ?_
    refine K.if_le dAI_162 (fun _ => ?_) (fun u => absurd (by decide) u)
    refine K.aload dAI_165 rfl rfl ?_
    refine K.iinc ((1 : Int32)) #[oA x, oA y, oI (1 : Int32), oI (0 : Int32), oA a33, oJ sm0, oT, oI (0 : Int32), oU] dAI_167 rfl rfl rfl ?_
    refine K.iloadN dAI_170 rfl ?_
    refine K.aloadN dAI_171 rfl rfl ?_
    refine K.iloadN dAI_172 rfl ?_
    refine K.iaload (v := .int (ga 1)) dAI_173 I52 (by decide) (by decide) rfl ?_
    refine K.iastore dAI_174 A50 (by decide) (by decide) g36 (fun h54 W55 A56 => ?_)
    have K57 := K51.wr W55 (Or.inr ks_a33)
    have I58 := I52.other W55 (Nat.ne_of_lt lt_x_a33)
    have I59 := I53.other W55 (Nat.ne_of_lt lt_y_a33)
    refine K.goto dAI_175 ?_
    refine K.iloadN dAI_161 rfl ?_
    refine K.if_le dAI_162 (fun _ => ?_) (fun u => absurd (by decide) u)
    refine K.aload dAI_165 rfl rfl ?_
    refine K.iinc ((0 : Int32)) #[oA x, oA y, oI (0 : Int32), oI (0 : Int32), oA a33, oJ sm0, oT, oI (0 : Int32), oU] dAI_167 rfl rfl rfl ?_
    refine K.iloadN dAI_170 rfl ?_
    refine K.aloadN dAI_171 rfl rfl ?_
    refine K.iloadN dAI_172 rfl ?_
    refine K.iaload (v := .int (ga 0)) dAI_173 I58 (by decide) (by decide) rfl ?_
    refine K.iastore dAI_174 A56 (by decide) (by decide) g36 (fun h60 W61 A62 => ?_)
    have K63 := K57.wr W61 (Or.inr ks_a33)
    have I64 := I58.other W61 (Nat.ne_of_lt lt_x_a33)
    have I65 := I59.other W61 (Nat.ne_of_lt lt_y_a33)
    refine K.goto dAI_175 ?_
    refine K.iloadN dAI_161 rfl ?_
    refine K.if_le dAI_162 (fun u => absurd u (by decide)) (fun _ => ?_)
    refine K.iload dAI_178 rfl ?_
    refine K.if_eq dAI_180 (fun _ => ?_) (fun u => absurd rfl u)
    refine K.aload dAI_212 rfl rfl ?_
    obtain ⟨gf66, A67, E68⟩ := own_toF A62 (own_ifI (own_ifI (own_ifI (own_ifI zero_int _ _) _ _) _ _) _ _)
    have ev69 : gf66 0 = ga 0 := Value.int.inj ((E68 0).symm)
    exact K.areturn dAI_214 rfl rfl rfl (by decide) (by decide) ⟨_, rfl, K63, ks_a33, g36, _, A67, ev69⟩
theorem rmAD (l : Launch) (Z : State) (a0 : Array Value) (hw : Hw Z a0) (a b x y : Addr) (ka kb : Nat) (ga gb : Nat → Int32) (h : Heap) (n0 : Nat) (P1 : Fld Z h a "java/math/BigInteger" "signum" "I" (.int 1)) (P2 : Fld Z h a "java/math/BigInteger" "mag" "[I" (.ref x)) (PA : Ia Z h x .int (Int32.ofNat ka) (intF ga)) (B1 : Fld Z h b "java/math/BigInteger" "signum" "I" (.int 1)) (B2 : Fld Z h b "java/math/BigInteger" "mag" "[I" (.ref y)) (BA : Ia Z h y .int (Int32.ofNat kb) (intF gb)) (hk : ka = 3 ∧ kb = 1 ∨ ka = 4 ∧ kb = 2) (z1 : ga 1 = 0) (z2 : ga 2 = 0) (z3 : ga 3 = 0) : Con l Z ⟨"java/math/BigInteger", "add", "(Ljava/math/BigInteger;)Ljava/math/BigInteger;"⟩ jdk_2097_method_32_code 4 (some (.object "java/math/BigInteger")) ⟨3, 2, 10, 39⟩ #[.ref a, .ref b] h n0 (fun vr h' => ∃ t, vr = some (.ref t) ∧ (Keep h h' [] ∧ Exa Z h' t "java/math/BigInteger" ∧ Fld Z h' t "java/math/BigInteger" "signum" "I" (.int 1) ∧ ∃ (m_ : Addr) (k_ : Nat) (g_ : Nat → Int32), Fld Z h' t "java/math/BigInteger" "mag" "[I" (.ref m_) ∧ Ia Z h' m_ .int (Int32.ofNat k_) (intF g_) ∧ (k_ = ka ∧ g_ 0 = ga 0))) := by
  refine Con.of pnAD (fun m_ => efAD m_ a b) (fun E K => ?_)
  have K1 : Keep h h [] := Keep.refl _ _
  refine K.aloadN dAD_0 rfl rfl ?_
  refine K.getF dAD_1 (wd100 hw) B1 ?_
  refine K.if_ne dAD_4 (fun u => absurd u (by decide)) (fun _ => ?_)
  refine K.aloadN dAD_9 rfl rfl ?_
  refine K.getF dAD_10 (wd100 hw) P1 ?_
  refine K.if_ne dAD_13 (fun u => absurd u (by decide)) (fun _ => ?_)
  refine K.aloadN dAD_18 rfl rfl ?_
  refine K.getF dAD_19 (wd100 hw) B1 ?_
  refine K.aloadN dAD_22 rfl rfl ?_
  refine K.getF dAD_23 (wd100 hw) P1 ?_
  refine K.ic_ne dAD_26 (fun _ => ?_) (fun u => absurd rfl u)
  refine K.newO 1 6 dAD_29 (wd102 hw) (wd103 hw) (wd94 hw) rfl rfl (by decide) (by decide) (fun h3 a2 ha4 g5 X6 A7 D8 => ?_)
  have ks_a2 := ha_ge K1.1 ha4
  have lt_a_a2 : a < a2 := by rw [ha4]; exact P1.lt
  have lt_b_a2 : b < a2 := by rw [ha4]; exact B1.lt
  have lt_x_a2 : x < a2 := by rw [ha4]; exact PA.lt
  have lt_y_a2 : y < a2 := by rw [ha4]; exact BA.lt
  have K9 := K1.ext X6
  have F10 := P1.ext X6
  have F11 := P2.ext X6
  have I12 := PA.ext X6
  have F13 := B1.ext X6
  have F14 := B2.ext X6
  have I15 := BA.ext X6
  have F16 : Fld Z h3 a2 "java/math/BigInteger" "signum" "I" (.int 0) := D8 (Or.inr (wd101 hw)) (ty := .int) (by decide)
  have F17 : Fld Z h3 a2 "java/math/BigInteger" "mag" "[I" .null := D8 (Or.inr (wd105 hw)) (ty := (.array .int)) (by decide)
  refine K.dup dAD_32 rfl ?_
  refine K.aloadN dAD_33 rfl rfl ?_
  refine K.getF dAD_34 (wd104 hw) F11 ?_
  refine K.aloadN dAD_37 rfl rfl ?_
  refine K.getF dAD_38 (wd104 hw) F14 ?_
  refine K.callS [.ref x, .ref y] [.ref a2, .ref a2] 2 2 10 dAD_41 (wd136 hw) (wd137 hw) (wd94 hw) (wd138 hw) (by decide) (rmAI l Z a0 hw x y ka kb ga gb h3 n0 I12 I15 hk z1 z2 z3) rfl (lenOf pd_17 rfl) rfl (Nat.le_of_eq rfl) (by decide) (by decide) rfl rfl (by decide) (by decide) (goR fun t18 h19 q20 => ?_)
  obtain ⟨K21, g22, e23, gf24, A25, cn26⟩ := q20
  have lt_a_t18 : a < t18 := Nat.lt_of_lt_of_le F10.lt g22
  have lt_a2_t18 : a2 < t18 := Nat.lt_of_lt_of_le A7.lt g22
  have lt_b_t18 : b < t18 := Nat.lt_of_lt_of_le F13.lt g22
  have lt_x_t18 : x < t18 := Nat.lt_of_lt_of_le I12.lt g22
  have lt_y_t18 : y < t18 := Nat.lt_of_lt_of_le I15.lt g22
  have ks27 := Nat.le_trans K9.1 g22
  have K28 := K9.trans K21 all0
  have F29 := F10.keep K21 nin0
  have F30 := F11.keep K21 nin0
  have I31 := I12.keep K21 nin0
  have F32 := F13.keep K21 nin0
  have F33 := F14.keep K21 nin0
  have I34 := I15.keep K21 nin0
  have E35 := A7.keep K21
  have F36 := F16.keep K21 nin0
  have F37 := F17.keep K21 nin0
  refine K.aloadN dAD_44 rfl rfl ?_
  refine K.getF dAD_45 (wd100 hw) F29 ?_
  refine K.callI (a := a2) [.ref t18, .int 1] [.ref a2] 1 2 10 dAD_48 rfl rfl (wd114 hw) (wd115 hw) (wd94 hw) (wd117 hw) (by decide) (rmBM l Z a0 hw a2 t18 ka (intF gf24) h19 n0 E35 F36 F37 A25 g5 (Nat.ne_of_gt lt_a2_t18) (by omega) (by omega)) rfl (lenOf pd_10 rfl) rfl (Nat.le_of_eq rfl) (by decide) (by decide) rfl rfl (by decide) (by decide) (goU fun h38 q39 => ?_)
  obtain ⟨K40, F41, F42⟩ := q39
  have K43 := K28.trans K40 (allS (Or.inr ks_a2) all0)
  have F44 := F29.keep K40 (ninS (Nat.ne_of_lt lt_a_a2) nin0)
  have F45 := F30.keep K40 (ninS (Nat.ne_of_lt lt_a_a2) nin0)
  have I46 := I31.keep K40 (ninS (Nat.ne_of_lt lt_x_a2) nin0)
  have F47 := F32.keep K40 (ninS (Nat.ne_of_lt lt_b_a2) nin0)
  have F48 := F33.keep K40 (ninS (Nat.ne_of_lt lt_b_a2) nin0)
  have I49 := I34.keep K40 (ninS (Nat.ne_of_lt lt_y_a2) nin0)
  have E50 := E35.keep K40
  have I51 := A25.keep K40 (ninS (Nat.ne_of_gt lt_a2_t18) nin0)
  exact K.areturn dAD_51 rfl rfl rfl (by decide) (by decide) ⟨_, rfl, K43, E50, F41, _, _, _, F42, I51, rfl, cn26⟩
theorem rmAZ (l : Launch) (Z : State) (a0 : Array Value) (hw : Hw Z a0) (a b : Addr) (h : Heap) (n0 : Nat) (P0 : Fld Z h b "java/math/BigInteger" "signum" "I" (.int 0)) : Con l Z ⟨"java/math/BigInteger", "add", "(Ljava/math/BigInteger;)Ljava/math/BigInteger;"⟩ jdk_2097_method_32_code 4 (some (.object "java/math/BigInteger")) ⟨0, 0, 0, 0⟩ #[.ref a, .ref b] h n0 (fun vr h' => vr = some (.ref a) ∧ h' = h) := by
  refine Con.of pnAZ (fun m_ => efAZ m_ a b) (fun E K => ?_)
  refine K.aloadN dAZ_0 rfl rfl ?_
  refine K.getF dAZ_1 (wd100 hw) P0 ?_
  refine K.if_ne dAZ_4 (fun _ => ?_) (fun u => absurd rfl u)
  refine K.aloadN dAZ_7 rfl rfl ?_
  exact K.areturn dAZ_8 rfl rfl rfl (by decide) (by decide) ⟨rfl, rfl⟩
theorem rmD1 (l : Launch) (Z : State) (a0 : Array Value) (hw : Hw Z a0) (a q mc c : Addr) (x : Int32) (kc : Nat) (gc : Nat → Int32) (f : Int32 → Value) (h : Heap) (n0 : Nat) (P1 : Fld Z h a "java/math/MutableBigInteger" "offset" "I" (.int 0)) (P2 : Fld Z h a "java/math/MutableBigInteger" "value" "[I" (.ref mc)) (P3 : Fld Z h a "java/math/MutableBigInteger" "intLen" "I" (.int (Int32.ofNat kc))) (PA : Ia Z h mc .int (Int32.ofNat kc) (intF gc)) (QE : Exa Z h q "java/math/MutableBigInteger") (Q1 : Fld Z h q "java/math/MutableBigInteger" "offset" "I" (.int 0)) (Q2 : Fld Z h q "java/math/MutableBigInteger" "value" "[I" (.ref c)) (Q3 : Fld Z h q "java/math/MutableBigInteger" "intLen" "I" (.int 0)) (CA : Ia Z h c .int 1 f) (gq : n0 ≤ q) (naq : a ≠ q) (nmq : mc ≠ q) (ncq : c ≠ q) (hO : OneW kc (uv (gc 0)) (uv x)) : Con l Z ⟨"java/math/MutableBigInteger", "divideOneWord", "(ILjava/math/MutableBigInteger;)I"⟩ jdk_2101_method_53_code 15 (some .int) ⟨1, 1, 3, 20⟩ #[.ref a, .int x, .ref q] h n0 (fun vr h' => ∃ z, vr = some (.int z) ∧ (Keep h h' [q] ∧ ∃ (m_ : Addr) (i_ k_ : Nat) (g_ : Nat → Int32), h.size ≤ m_ ∧ n0 ≤ m_ ∧ i_ ≤ 1 ∧ i_ + 2 ≤ k_ ∧ k_ ≤ 4 ∧ (Fld Z h' q "java/math/MutableBigInteger" "offset" "I" (.int (Int32.ofNat i_)) ∧ Fld Z h' q "java/math/MutableBigInteger" "value" "[I" (.ref m_) ∧ Fld Z h' q "java/math/MutableBigInteger" "intLen" "I" (.int (Int32.ofNat (k_ - i_)))) ∧ Ia Z h' m_ .int (Int32.ofNat k_) (intF g_))) := by
  refine Con.of pnD1 (fun m_ => efD1 m_ a x q) (fun E K => ?_)
  have K1 : Keep h h [q] := Keep.refl _ _
  have hD := m32 x
  have rD := uv_rng x
  have rc := uv_rng (gc 0)
  obtain ⟨D, eD⟩ : ∃ D : Int64, D = x.toInt64 &&& (4294967295 : Int64) := ⟨_, rfl⟩
  rw [← eD] at hD
  rcases hO with ⟨rfl, hc, hd⟩ | ⟨rfl, hc, hd⟩
  · have hx1 : 1 ≤ uv x := by omega
    refine K.iloadN dD1_0 rfl ?_
    refine K.i2l dD1_1 ?_
    refine K.ldc2J dD1_2 (wd187 hw) ?_
    refine K.land dD1_5 ?_
    rw [← eD]
    refine K.lstoreN #[oA a, oI x, oA q, oJ D, oT, oU, oU, oU, oU, oU, oU, oU, oU, oU, oU] dD1_6 rfl ?_
    refine K.aloadN dD1_7 rfl rfl ?_
    refine K.getF dD1_8 (wd162 hw) P3 ?_
    refine K.iconst (1 : Int32) dD1_11 rfl ?_
    refine K.ic_ne dD1_12 (fun u => absurd u (by decide)) (fun _ => ?_)
    refine K.aloadN dD1_79 rfl rfl ?_
    refine K.getF dD1_80 (wd160 hw) Q2 ?_
    refine K.arraylength dD1_83 CA ?_
    refine K.aloadN dD1_84 rfl rfl ?_
    refine K.getF dD1_85 (wd162 hw) P3 ?_
    refine K.ic_ge dD1_88 (fun _ => ?_) (fun u => absurd (by decide) u)
    refine K.aloadN dD1_91 rfl rfl ?_
    refine K.aloadN dD1_92 rfl rfl ?_
    refine K.getF dD1_93 (wd162 hw) P3 ?_
    refine K.newP (ty := .int) (dv := .int 0) 3 1 3 dD1_96 (wd109 hw) rfl rfl (by decide) (by decide) (by decide) rfl rfl (by decide) (by decide) (fun h3 a2 ha4 g5 X6 A7 => ?_)
    have ks_a2 := ha_ge K1.1 ha4
    have lt_a_a2 : a < a2 := by rw [ha4]; exact P1.lt
    have lt_mc_a2 : mc < a2 := by rw [ha4]; exact PA.lt
    have lt_q_a2 : q < a2 := by rw [ha4]; exact QE.lt
    have K8 := K1.ext X6
    have F9 := P1.ext X6
    have F10 := P2.ext X6
    have F11 := P3.ext X6
    have I12 := PA.ext X6
    have E13 := QE.ext X6
    have F14 := Q1.ext X6
    have F15 := Q2.ext X6
    have F16 := Q3.ext X6
    refine K.putF dD1_98 (wd160 hw) F15 E13 (Or.inl (wd161 hw)) (wd151 hw) (ty := (.array .int)) (by decide) rfl rfl gq (fun h17 W18 => ?_)
    have K19 := K8.wr W18 (Or.inl (mg 0 rfl))
    have F20 := F9.other W18 (Or.inl naq)
    have F21 := F10.other W18 (Or.inl naq)
    have F22 := F11.other W18 (Or.inl naq)
    have I23 := I12.other W18 nmq
    have E24 := E13.wr W18
    have F25 := F14.other W18 (Or.inr (sn30 hw))
    have F26 := F15.same W18
    have F27 := F16.other W18 (Or.inr (sn31 hw))
    have I28 := A7.other W18 (Nat.ne_of_gt lt_q_a2)
    refine K.aloadN dD1_101 rfl rfl ?_
    refine K.iconst (0 : Int32) dD1_102 rfl ?_
    refine K.putF dD1_103 (wd158 hw) F25 E24 (Or.inl (wd159 hw)) (wd151 hw) (ty := .int) (by decide) rfl rfl gq (fun h29 W30 => ?_)
    have K31 := K19.wr W30 (Or.inl (mg 0 rfl))
    have F32 := F20.other W30 (Or.inl naq)
    have F33 := F21.other W30 (Or.inl naq)
    have F34 := F22.other W30 (Or.inl naq)
    have I35 := I23.other W30 nmq
    have E36 := E24.wr W30
    have F37 := F25.same W30
    have F38 := F26.other W30 (Or.inr (sn28 hw))
    have F39 := F27.other W30 (Or.inr (sn29 hw))
    have I40 := I28.other W30 (Nat.ne_of_gt lt_q_a2)
    refine K.aloadN dD1_106 rfl rfl ?_
    refine K.aloadN dD1_107 rfl rfl ?_
    refine K.getF dD1_108 (wd162 hw) F34 ?_
    refine K.putF dD1_111 (wd162 hw) F39 E36 (Or.inl (wd163 hw)) (wd151 hw) (ty := .int) (by decide) rfl rfl gq (fun h41 W42 => ?_)
    have K43 := K31.wr W42 (Or.inl (mg 0 rfl))
    have F44 := F32.other W42 (Or.inl naq)
    have F45 := F33.other W42 (Or.inl naq)
    have F46 := F34.other W42 (Or.inl naq)
    have I47 := I35.other W42 nmq
    have E48 := E36.wr W42
    have F49 := F37.other W42 (Or.inr (sn32 hw))
    have F50 := F38.other W42 (Or.inr (sn33 hw))
    have F51 := F39.same W42
    have I52 := I40.other W42 (Nat.ne_of_gt lt_q_a2)
    refine K.iloadN dD1_114 rfl ?_
    refine K.callS [.int x] [] 0 1 3 dD1_115 (wd188 hw) (wd82 hw) (wd83 hw) (wd84 hw) (by decide) (rmNI l Z a0 hw x h41 n0) rfl (lenOf pd_6 rfl) rfl (Nat.le_of_eq rfl) (by decide) (by decide) rfl rfl (by decide) (by decide) (goIs fun z53 q54 => ?_)
    obtain ⟨k55, rfl, N56⟩ := q54
    refine K.istore #[oA a, oI x, oA q, oJ D, oT, oI (Int32.ofNat k55), oU, oU, oU, oU, oU, oU, oU, oU, oU] dD1_118 rfl ?_
    refine K.aloadN dD1_120 rfl rfl ?_
    refine K.getF dD1_121 (wd160 hw) F45 ?_
    refine K.aloadN dD1_124 rfl rfl ?_
    refine K.getF dD1_125 (wd158 hw) F44 ?_
    refine K.iaload (v := .int (gc 0)) dD1_128 I47 (by decide) (by decide) rfl ?_
    refine K.istore #[oA a, oI x, oA q, oJ D, oT, oI (Int32.ofNat k55), oI (gc 0), oU, oU, oU, oU, oU, oU, oU, oU] dD1_129 rfl ?_
    refine K.iload dD1_131 rfl ?_
    refine K.i2l dD1_133 ?_
    refine K.ldc2J dD1_134 (wd187 hw) ?_
    refine K.land dD1_137 ?_
    obtain ⟨R, eR⟩ : ∃ x_ : Int64, x_ = ((gc 0).toInt64) &&& (4294967295 : Int64) := ⟨_, rfl⟩
    rw [← eR]
    have hR := m32 (gc 0)
    rw [← eR] at hR
    refine K.lstore #[oA a, oI x, oA q, oJ D, oT, oI (Int32.ofNat k55), oI (gc 0), oJ R, oT, oU, oU, oU, oU, oU, oU] dD1_138 rfl ?_
    refine K.lload dD1_140 rfl ?_
    refine K.lloadN dD1_142 rfl ?_
    refine K.lc_ge dD1_143 dD1_144 (fun u => absurd u (own_lg hR hD (by omega))) (fun _ => ?_)
    refine K.aloadN dD1_157 rfl rfl ?_
    refine K.getF dD1_158 (wd160 hw) F50 ?_
    refine K.iconst (0 : Int32) dD1_161 rfl ?_
    refine K.lload dD1_162 rfl ?_
    refine K.lloadN dD1_164 rfl ?_
    refine K.ldiv dD1_165 (own_Dn hD hx1) ?_
    refine K.l2i dD1_166 ?_
    have Q0 := own_qr (own_uwR hR rc.1) hD hx1 rD.2 (own_nlt0 (by rw [hR]; exact rc.1)) (by rw [hd]; omega)
    obtain ⟨q0, eq0⟩ : ∃ x_ : Int32, x_ = (R / D).toInt32 := ⟨_, rfl⟩
    rw [← eq0]
    rw [← eq0] at Q0
    refine K.iastore dD1_167 I52 (by decide) (by decide) g5 (fun h57 W58 A59 => ?_)
    have K60 := K43.wr W58 (Or.inr ks_a2)
    have F61 := F44.other W58 (Or.inl (Nat.ne_of_lt lt_a_a2))
    have F62 := F45.other W58 (Or.inl (Nat.ne_of_lt lt_a_a2))
    have F63 := F46.other W58 (Or.inl (Nat.ne_of_lt lt_a_a2))
    have I64 := I47.other W58 (Nat.ne_of_lt lt_mc_a2)
    have E65 := E48.wr W58
    have F66 := F49.other W58 (Or.inl (Nat.ne_of_lt lt_q_a2))
    have F67 := F50.other W58 (Or.inl (Nat.ne_of_lt lt_q_a2))
    have F68 := F51.other W58 (Or.inl (Nat.ne_of_lt lt_q_a2))
    refine K.lload dD1_168 rfl ?_
    refine K.aloadN dD1_170 rfl rfl ?_
    refine K.getF dD1_171 (wd160 hw) F67 ?_
    refine K.iconst (0 : Int32) dD1_174 rfl ?_
    refine K.iaload (v := .int q0) dD1_175 A59 (by decide) (by decide) rfl ?_
    refine K.i2l dD1_176 ?_
    refine K.lloadN dD1_177 rfl ?_
    refine K.lmul dD1_178 ?_
    refine K.lsub dD1_179 ?_
    refine K.l2i dD1_180 ?_
    obtain ⟨r0, er0⟩ : ∃ x_ : Int32, x_ = (R - (q0.toInt64 * D)).toInt32 := ⟨_, rfl⟩
    rw [← er0]
    rw [← er0] at Q0
    refine K.istore #[oA a, oI x, oA q, oJ D, oT, oI (Int32.ofNat k55), oI r0, oJ R, oT, oU, oU, oU, oU, oU, oU] dD1_181 rfl ?_
    refine K.iload dD1_183 rfl ?_
    refine K.i2l dD1_185 ?_
    refine K.ldc2J dD1_186 (wd187 hw) ?_
    refine K.land dD1_189 ?_
    obtain ⟨R0, eR0⟩ : ∃ x_ : Int64, x_ = r0.toInt64 &&& (4294967295 : Int64) := ⟨_, rfl⟩
    rw [← eR0]
    have hR0 := m32 r0
    rw [← eR0] at hR0
    have hq0 : ¬ q0 = 0 := own_qpos Q0.1 hx1 (by omega)
    refine K.lstore #[oA a, oI x, oA q, oJ D, oT, oI (Int32.ofNat k55), oI r0, oJ R0, oT, oU, oU, oU, oU, oU, oU] dD1_190 rfl ?_
    refine K.aloadN dD1_192 rfl rfl ?_
    refine K.getF dD1_193 (wd162 hw) F63 ?_
    refine K.istore #[oA a, oI x, oA q, oJ D, oT, oI (Int32.ofNat k55), oI r0, oJ R0, oT, oI (Int32.ofNat 2), oU, oU, oU, oU, oU] dD1_196 rfl ?_
    have hg1 := (show 0 ≤ uv r0 ∧ uv r0 < uv x from by rw [Q0.2]; exact ⟨Int.emod_nonneg _ (by omega), Int.emod_lt_of_pos _ (by omega)⟩)
    refine K.iinc ((1 : Int32)) #[oA a, oI x, oA q, oJ D, oT, oI (Int32.ofNat k55), oI r0, oJ R0, oT, oI (1 : Int32), oU, oU, oU, oU, oU] dD1_198 rfl rfl rfl ?_
    refine K.iload dD1_201 rfl ?_
    refine K.if_le dD1_203 (fun _ => ?_) (fun u => absurd (by decide) u)
    refine K.lload dD1_206 rfl ?_
    refine K.bipush (32 : Int32) dD1_208 rfl ?_
    refine K.lshl dD1_210 ?_
    refine K.aloadN dD1_211 rfl rfl ?_
    refine K.getF dD1_212 (wd160 hw) F62 ?_
    refine K.aloadN dD1_215 rfl rfl ?_
    refine K.getF dD1_216 (wd158 hw) F61 ?_
    refine K.aloadN dD1_219 rfl rfl ?_
    refine K.getF dD1_220 (wd162 hw) F63 ?_
    refine K.iadd dD1_223 ?_
    refine K.iload dD1_224 rfl ?_
    refine K.isub dD1_226 ?_
    show Wk E h57 1 3 227 #[oA a, oI x, oA q, oJ D, oT, oI (Int32.ofNat k55), oI r0, oJ R0, oT, oI (1 : Int32), oU, oU, oU, oU, oU] [.int 1, .ref mc, .long (R0 <<< ((32 : Int32) &&& 63).toInt64)]
    refine K.iaload (v := .int (gc 1)) dD1_227 I64 (by decide) (by decide) rfl ?_
    refine K.i2l dD1_228 ?_
    refine K.ldc2J dD1_229 (wd187 hw) ?_
    refine K.land dD1_232 ?_
    refine K.lor dD1_233 ?_
    obtain ⟨est1, eest1⟩ : ∃ x_ : Int64, x_ = (R0 <<< ((32 : Int32) &&& 63).toInt64) ||| (((gc 1).toInt64) &&& (4294967295 : Int64)) := ⟨_, rfl⟩
    rw [← eest1]
    have hE1 : uw est1 = uv r0 * 4294967296 + uv (gc 1) := by rw [eest1]; exact uw_chunkL (gc 1) hR0 hg1.1 (by omega)
    have rg1 := uv_rng (gc 1)
    have hb1 : uv r0 * 4294967296 + uv (gc 1) < uv x * 4294967296 := by omega
    refine K.lstore #[oA a, oI x, oA q, oJ D, oT, oI (Int32.ofNat k55), oI r0, oJ R0, oT, oI (1 : Int32), oJ est1, oT, oU, oU, oU] dD1_234 rfl ?_
    refine K.lload dD1_236 rfl ?_
    refine K.lconst (0 : Int64) dD1_238 rfl ?_
    have hr00 : uv r0 = 0 := by rw [Q0.2, hd]; exact Int.emod_one _
    refine K.lc_lt dD1_239 dD1_240 (fun u => absurd u (own_est0 hE1 (by omega))) (fun _ => ?_)
    have Q1 := own_qr hE1 hD hx1 rD.2 (own_est0 hE1 (by omega)) hb1
    refine K.lload dD1_243 rfl ?_
    refine K.lloadN dD1_245 rfl ?_
    refine K.ldiv dD1_246 (own_Dn hD hx1) ?_
    refine K.l2i dD1_247 ?_
    obtain ⟨q1, eq1⟩ : ∃ x_ : Int32, x_ = (est1 / D).toInt32 := ⟨_, rfl⟩
    rw [← eq1]
    rw [← eq1] at Q1
    refine K.istore #[oA a, oI x, oA q, oJ D, oT, oI (Int32.ofNat k55), oI r0, oJ R0, oT, oI (1 : Int32), oJ est1, oT, oI q1, oU, oU] dD1_248 rfl ?_
    refine K.lload dD1_250 rfl ?_
    refine K.iload dD1_252 rfl ?_
    refine K.i2l dD1_254 ?_
    refine K.lloadN dD1_255 rfl ?_
    refine K.lmul dD1_256 ?_
    refine K.lsub dD1_257 ?_
    refine K.l2i dD1_258 ?_
    obtain ⟨r1, er1⟩ : ∃ x_ : Int32, x_ = (est1 - (q1.toInt64 * D)).toInt32 := ⟨_, rfl⟩
    rw [← er1]
    rw [← er1] at Q1
    refine K.istore #[oA a, oI x, oA q, oJ D, oT, oI (Int32.ofNat k55), oI r1, oJ R0, oT, oI (1 : Int32), oJ est1, oT, oI q1, oU, oU] dD1_259 rfl ?_
    refine K.goto dD1_261 ?_
    refine K.aloadN dD1_289 rfl rfl ?_
    refine K.getF dD1_290 (wd160 hw) F67 ?_
    refine K.aloadN dD1_293 rfl rfl ?_
    refine K.getF dD1_294 (wd162 hw) F63 ?_
    refine K.iload dD1_297 rfl ?_
    refine K.isub dD1_299 ?_
    show Wk E h57 1 3 300 #[oA a, oI x, oA q, oJ D, oT, oI (Int32.ofNat k55), oI r1, oJ R0, oT, oI (1 : Int32), oJ est1, oT, oI q1, oU, oU] [.int 1, .ref a2]
    refine K.iload dD1_300 rfl ?_
    refine K.iastore dD1_302 A59 (by decide) (by decide) g5 (fun h69 W70 A71 => ?_)
    have K72 := K60.wr W70 (Or.inr ks_a2)
    have F73 := F61.other W70 (Or.inl (Nat.ne_of_lt lt_a_a2))
    have F74 := F62.other W70 (Or.inl (Nat.ne_of_lt lt_a_a2))
    have F75 := F63.other W70 (Or.inl (Nat.ne_of_lt lt_a_a2))
    have I76 := I64.other W70 (Nat.ne_of_lt lt_mc_a2)
    have E77 := E65.wr W70
    have F78 := F66.other W70 (Or.inl (Nat.ne_of_lt lt_q_a2))
    have F79 := F67.other W70 (Or.inl (Nat.ne_of_lt lt_q_a2))
    have F80 := F68.other W70 (Or.inl (Nat.ne_of_lt lt_q_a2))
    refine K.iload dD1_303 rfl ?_
    refine K.i2l dD1_305 ?_
    refine K.ldc2J dD1_306 (wd187 hw) ?_
    refine K.land dD1_309 ?_
    obtain ⟨R1, eR1⟩ : ∃ x_ : Int64, x_ = r1.toInt64 &&& (4294967295 : Int64) := ⟨_, rfl⟩
    rw [← eR1]
    have hR1 := m32 r1
    rw [← eR1] at hR1
    refine K.lstore #[oA a, oI x, oA q, oJ D, oT, oI (Int32.ofNat k55), oI r1, oJ R1, oT, oI (1 : Int32), oJ est1, oT, oI q1, oU, oU] dD1_310 rfl ?_
    refine K.goto dD1_312 ?_
    refine K.iinc ((0 : Int32)) #[oA a, oI x, oA q, oJ D, oT, oI (Int32.ofNat k55), oI r1, oJ R1, oT, oI (0 : Int32), oJ est1, oT, oI q1, oU, oU] dD1_198 rfl rfl rfl ?_
    refine K.iload dD1_201 rfl ?_
    refine K.if_le dD1_203 (fun u => absurd u (by decide)) (fun _ => ?_)
    obtain ⟨gf81, A82, E83⟩ := own_toF A71 (own_ifI (own_ifI zero_int _ _) _ _)
    have ev84 : gf81 0 = q0 := Value.int.inj ((E83 0).symm)
    refine K.aloadN dD1_315 rfl rfl ?_
    refine K.callV (a := q) [] [] 0 1 3 dD1_316 (wd189 hw) (wd190 hw) (wd192 hw) (wd191 hw) (wd152 hw) (wd193 hw) (by decide) (rmNM l Z a0 hw q a2 2 gf81 h69 n0 E77 F78 F79 F80 A82 gq (Nat.ne_of_gt lt_q_a2) (by decide) (by decide) (Or.inl (by rw [ev84]; exact hq0))) E77 rfl (lenOf pd_5 rfl) rfl (Nat.le_of_eq rfl) (by decide) (by decide) rfl rfl (by decide) (by decide) (goU fun h85 q86 => ?_)
    obtain ⟨K87, i88, hi89, hi90, F91, F92, F93⟩ := q86
    have K94 := K72.trans K87 (allS (Or.inl (mg 0 rfl)) all0)
    have F95 := F73.keep K87 (ninS naq nin0)
    have F96 := F74.keep K87 (ninS naq nin0)
    have F97 := F75.keep K87 (ninS naq nin0)
    have I98 := I76.keep K87 (ninS nmq nin0)
    have E99 := E77.keep K87
    have I100 := A82.keep K87 (ninS (Nat.ne_of_gt lt_q_a2) nin0)
    refine K.iload dD1_319 rfl ?_
    refine K.if_le dD1_321 (fun hc101 => ?_) (fun hc101 => ?_)
    · refine K.iload dD1_324 rfl ?_
      refine K.iloadN dD1_326 rfl ?_
      refine K.irem dD1_327 (own_xn hx1) ?_
      exact K.ireturn dD1_328 (Or.inl rfl) rfl (by decide) (by decide) ⟨_, rfl, K94, a2, i88, 2, _, ks_a2, g5, hi89, hi90, by decide, ⟨F91, F92, F93⟩, I100⟩
    · refine K.iload dD1_329 rfl ?_
      exact K.ireturn dD1_331 (Or.inl rfl) rfl (by decide) (by decide) ⟨_, rfl, K94, a2, i88, 2, _, ks_a2, g5, hi89, hi90, by decide, ⟨F91, F92, F93⟩, I100⟩
  · have hx1 : 1 ≤ uv x := by omega
    refine K.iloadN dD1_0 rfl ?_
    refine K.i2l dD1_1 ?_
    refine K.ldc2J dD1_2 (wd187 hw) ?_
    refine K.land dD1_5 ?_
    rw [← eD]
    refine K.lstoreN #[oA a, oI x, oA q, oJ D, oT, oU, oU, oU, oU, oU, oU, oU, oU, oU, oU] dD1_6 rfl ?_
    refine K.aloadN dD1_7 rfl rfl ?_
    refine K.getF dD1_8 (wd162 hw) P3 ?_
    refine K.iconst (1 : Int32) dD1_11 rfl ?_
    refine K.ic_ne dD1_12 (fun u => absurd u (by decide)) (fun _ => ?_)
    refine K.aloadN dD1_79 rfl rfl ?_
    refine K.getF dD1_80 (wd160 hw) Q2 ?_
    refine K.arraylength dD1_83 CA ?_
    refine K.aloadN dD1_84 rfl rfl ?_
    refine K.getF dD1_85 (wd162 hw) P3 ?_
    refine K.ic_ge dD1_88 (fun _ => ?_) (fun u => absurd (by decide) u)
    refine K.aloadN dD1_91 rfl rfl ?_
    refine K.aloadN dD1_92 rfl rfl ?_
    refine K.getF dD1_93 (wd162 hw) P3 ?_
    refine K.newP (ty := .int) (dv := .int 0) 3 1 3 dD1_96 (wd109 hw) rfl rfl (by decide) (by decide) (by decide) rfl rfl (by decide) (by decide) (fun h103 a102 ha104 g105 X106 A107 => ?_)
    have ks_a102 := ha_ge K1.1 ha104
    have lt_a_a102 : a < a102 := by rw [ha104]; exact P1.lt
    have lt_mc_a102 : mc < a102 := by rw [ha104]; exact PA.lt
    have lt_q_a102 : q < a102 := by rw [ha104]; exact QE.lt
    have K108 := K1.ext X106
    have F109 := P1.ext X106
    have F110 := P2.ext X106
    have F111 := P3.ext X106
    have I112 := PA.ext X106
    have E113 := QE.ext X106
    have F114 := Q1.ext X106
    have F115 := Q2.ext X106
    have F116 := Q3.ext X106
    refine K.putF dD1_98 (wd160 hw) F115 E113 (Or.inl (wd161 hw)) (wd151 hw) (ty := (.array .int)) (by decide) rfl rfl gq (fun h117 W118 => ?_)
    have K119 := K108.wr W118 (Or.inl (mg 0 rfl))
    have F120 := F109.other W118 (Or.inl naq)
    have F121 := F110.other W118 (Or.inl naq)
    have F122 := F111.other W118 (Or.inl naq)
    have I123 := I112.other W118 nmq
    have E124 := E113.wr W118
    have F125 := F114.other W118 (Or.inr (sn30 hw))
    have F126 := F115.same W118
    have F127 := F116.other W118 (Or.inr (sn31 hw))
    have I128 := A107.other W118 (Nat.ne_of_gt lt_q_a102)
    refine K.aloadN dD1_101 rfl rfl ?_
    refine K.iconst (0 : Int32) dD1_102 rfl ?_
    refine K.putF dD1_103 (wd158 hw) F125 E124 (Or.inl (wd159 hw)) (wd151 hw) (ty := .int) (by decide) rfl rfl gq (fun h129 W130 => ?_)
    have K131 := K119.wr W130 (Or.inl (mg 0 rfl))
    have F132 := F120.other W130 (Or.inl naq)
    have F133 := F121.other W130 (Or.inl naq)
    have F134 := F122.other W130 (Or.inl naq)
    have I135 := I123.other W130 nmq
    have E136 := E124.wr W130
    have F137 := F125.same W130
    have F138 := F126.other W130 (Or.inr (sn28 hw))
    have F139 := F127.other W130 (Or.inr (sn29 hw))
    have I140 := I128.other W130 (Nat.ne_of_gt lt_q_a102)
    refine K.aloadN dD1_106 rfl rfl ?_
    refine K.aloadN dD1_107 rfl rfl ?_
    refine K.getF dD1_108 (wd162 hw) F134 ?_
    refine K.putF dD1_111 (wd162 hw) F139 E136 (Or.inl (wd163 hw)) (wd151 hw) (ty := .int) (by decide) rfl rfl gq (fun h141 W142 => ?_)
    have K143 := K131.wr W142 (Or.inl (mg 0 rfl))
    have F144 := F132.other W142 (Or.inl naq)
    have F145 := F133.other W142 (Or.inl naq)
    have F146 := F134.other W142 (Or.inl naq)
    have I147 := I135.other W142 nmq
    have E148 := E136.wr W142
    have F149 := F137.other W142 (Or.inr (sn32 hw))
    have F150 := F138.other W142 (Or.inr (sn33 hw))
    have F151 := F139.same W142
    have I152 := I140.other W142 (Nat.ne_of_gt lt_q_a102)
    refine K.iloadN dD1_114 rfl ?_
    refine K.callS [.int x] [] 0 1 3 dD1_115 (wd188 hw) (wd82 hw) (wd83 hw) (wd84 hw) (by decide) (rmNI l Z a0 hw x h141 n0) rfl (lenOf pd_6 rfl) rfl (Nat.le_of_eq rfl) (by decide) (by decide) rfl rfl (by decide) (by decide) (goIs fun z153 q154 => ?_)
    obtain ⟨k155, rfl, N156⟩ := q154
    refine K.istore #[oA a, oI x, oA q, oJ D, oT, oI (Int32.ofNat k155), oU, oU, oU, oU, oU, oU, oU, oU, oU] dD1_118 rfl ?_
    refine K.aloadN dD1_120 rfl rfl ?_
    refine K.getF dD1_121 (wd160 hw) F145 ?_
    refine K.aloadN dD1_124 rfl rfl ?_
    refine K.getF dD1_125 (wd158 hw) F144 ?_
    refine K.iaload (v := .int (gc 0)) dD1_128 I147 (by decide) (by decide) rfl ?_
    refine K.istore #[oA a, oI x, oA q, oJ D, oT, oI (Int32.ofNat k155), oI (gc 0), oU, oU, oU, oU, oU, oU, oU, oU] dD1_129 rfl ?_
    refine K.iload dD1_131 rfl ?_
    refine K.i2l dD1_133 ?_
    refine K.ldc2J dD1_134 (wd187 hw) ?_
    refine K.land dD1_137 ?_
    obtain ⟨R, eR⟩ : ∃ x_ : Int64, x_ = ((gc 0).toInt64) &&& (4294967295 : Int64) := ⟨_, rfl⟩
    rw [← eR]
    have hR := m32 (gc 0)
    rw [← eR] at hR
    refine K.lstore #[oA a, oI x, oA q, oJ D, oT, oI (Int32.ofNat k155), oI (gc 0), oJ R, oT, oU, oU, oU, oU, oU, oU] dD1_138 rfl ?_
    refine K.lload dD1_140 rfl ?_
    refine K.lloadN dD1_142 rfl ?_
    refine K.lc_ge dD1_143 dD1_144 (fun _ => ?_) (fun u => absurd (own_ll hR hD hd) u)
    refine K.aloadN dD1_147 rfl rfl ?_
    refine K.getF dD1_148 (wd160 hw) F150 ?_
    refine K.iconst (0 : Int32) dD1_151 rfl ?_
    refine K.iconst (0 : Int32) dD1_152 rfl ?_
    refine K.iastore dD1_153 I152 (by decide) (by decide) g105 (fun h157 W158 A159 => ?_)
    have K160 := K143.wr W158 (Or.inr ks_a102)
    have F161 := F144.other W158 (Or.inl (Nat.ne_of_lt lt_a_a102))
    have F162 := F145.other W158 (Or.inl (Nat.ne_of_lt lt_a_a102))
    have F163 := F146.other W158 (Or.inl (Nat.ne_of_lt lt_a_a102))
    have I164 := I147.other W158 (Nat.ne_of_lt lt_mc_a102)
    have E165 := E148.wr W158
    have F166 := F149.other W158 (Or.inl (Nat.ne_of_lt lt_q_a102))
    have F167 := F150.other W158 (Or.inl (Nat.ne_of_lt lt_q_a102))
    have F168 := F151.other W158 (Or.inl (Nat.ne_of_lt lt_q_a102))
    refine K.goto dD1_154 ?_
    refine K.aloadN dD1_192 rfl rfl ?_
    refine K.getF dD1_193 (wd162 hw) F163 ?_
    refine K.istore #[oA a, oI x, oA q, oJ D, oT, oI (Int32.ofNat k155), oI (gc 0), oJ R, oT, oI (Int32.ofNat 3), oU, oU, oU, oU, oU] dD1_196 rfl ?_
    have hg1 := (show 0 ≤ uv (gc 0) ∧ uv (gc 0) < uv x from ⟨rc.1, hd⟩)
    refine K.iinc ((2 : Int32)) #[oA a, oI x, oA q, oJ D, oT, oI (Int32.ofNat k155), oI (gc 0), oJ R, oT, oI (2 : Int32), oU, oU, oU, oU, oU] dD1_198 rfl rfl rfl ?_
    refine K.iload dD1_201 rfl ?_
    refine K.if_le dD1_203 (fun _ => ?_) (fun u => absurd (by decide) u)
    refine K.lload dD1_206 rfl ?_
    refine K.bipush (32 : Int32) dD1_208 rfl ?_
    refine K.lshl dD1_210 ?_
    refine K.aloadN dD1_211 rfl rfl ?_
    refine K.getF dD1_212 (wd160 hw) F162 ?_
    refine K.aloadN dD1_215 rfl rfl ?_
    refine K.getF dD1_216 (wd158 hw) F161 ?_
    refine K.aloadN dD1_219 rfl rfl ?_
    refine K.getF dD1_220 (wd162 hw) F163 ?_
    refine K.iadd dD1_223 ?_
    refine K.iload dD1_224 rfl ?_
    refine K.isub dD1_226 ?_
    show Wk E h157 1 3 227 #[oA a, oI x, oA q, oJ D, oT, oI (Int32.ofNat k155), oI (gc 0), oJ R, oT, oI (2 : Int32), oU, oU, oU, oU, oU] [.int 1, .ref mc, .long (R <<< ((32 : Int32) &&& 63).toInt64)]
    refine K.iaload (v := .int (gc 1)) dD1_227 I164 (by decide) (by decide) rfl ?_
    refine K.i2l dD1_228 ?_
    refine K.ldc2J dD1_229 (wd187 hw) ?_
    refine K.land dD1_232 ?_
    refine K.lor dD1_233 ?_
    obtain ⟨est1, eest1⟩ : ∃ x_ : Int64, x_ = (R <<< ((32 : Int32) &&& 63).toInt64) ||| (((gc 1).toInt64) &&& (4294967295 : Int64)) := ⟨_, rfl⟩
    rw [← eest1]
    have hE1 : uw est1 = uv (gc 0) * 4294967296 + uv (gc 1) := by rw [eest1]; exact uw_chunkL (gc 1) hR hg1.1 (by omega)
    have rg1 := uv_rng (gc 1)
    have hb1 : uv (gc 0) * 4294967296 + uv (gc 1) < uv x * 4294967296 := by omega
    refine K.lstore #[oA a, oI x, oA q, oJ D, oT, oI (Int32.ofNat k155), oI (gc 0), oJ R, oT, oI (2 : Int32), oJ est1, oT, oU, oU, oU] dD1_234 rfl ?_
    refine K.lload dD1_236 rfl ?_
    refine K.lconst (0 : Int64) dD1_238 rfl ?_
    refine K.lc_lt dD1_239 dD1_240 (fun hc169 => ?_) (fun hc169 => ?_)
    · have hd31 : 2147483648 ≤ uv x := by have := own_le0 hE1 hc169; omega
      refine K.lload dD1_264 rfl ?_
      refine K.iloadN dD1_266 rfl ?_
      refine K.callS [.long est1, .int x] [] 0 1 3 dD1_267 (wd262 hw) (wd263 hw) (wd152 hw) (wd264 hw) (by decide) (rmDW l Z a0 hw est1 x h157 n0 hd31 (by rw [hE1]; exact hb1)) rfl (lenOf pd_18 rfl) rfl (Nat.le_of_eq rfl) (by decide) (by decide) rfl rfl (by decide) (by decide) (goJs fun z170 q171 => ?_)
      rw [hE1] at q171
      have Q1 := own_qrw q171 hx1 (by omega) hb1
      refine K.lstore #[oA a, oI x, oA q, oJ D, oT, oI (Int32.ofNat k155), oI (gc 0), oJ R, oT, oI (2 : Int32), oJ est1, oT, oU, oJ z170, oT] dD1_270 rfl ?_
      refine K.lload dD1_272 rfl ?_
      refine K.ldc2J dD1_274 (wd187 hw) ?_
      refine K.land dD1_277 ?_
      refine K.l2i dD1_278 ?_
      obtain ⟨q1, eq1⟩ : ∃ x_ : Int32, x_ = (z170 &&& (4294967295 : Int64)).toInt32 := ⟨_, rfl⟩
      rw [← eq1]
      refine K.istore #[oA a, oI x, oA q, oJ D, oT, oI (Int32.ofNat k155), oI (gc 0), oJ R, oT, oI (2 : Int32), oJ est1, oT, oI q1, oJ z170, oT] dD1_279 rfl ?_
      refine K.lload dD1_281 rfl ?_
      refine K.bipush (32 : Int32) dD1_283 rfl ?_
      refine K.lushr dD1_285 ?_
      refine K.l2i dD1_286 ?_
      obtain ⟨r1, er1⟩ : ∃ x_ : Int32, x_ = ((z170.toUInt64 >>> ((32 : Int32) &&& 63).toInt64.toUInt64).toInt64).toInt32 := ⟨_, rfl⟩
      rw [← er1]
      rw [← eq1, ← er1] at Q1
      refine K.istore #[oA a, oI x, oA q, oJ D, oT, oI (Int32.ofNat k155), oI r1, oJ R, oT, oI (2 : Int32), oJ est1, oT, oI q1, oJ z170, oT] dD1_287 rfl ?_
      refine K.aloadN dD1_289 rfl rfl ?_
      refine K.getF dD1_290 (wd160 hw) F167 ?_
      refine K.aloadN dD1_293 rfl rfl ?_
      refine K.getF dD1_294 (wd162 hw) F163 ?_
      refine K.iload dD1_297 rfl ?_
      refine K.isub dD1_299 ?_
      show Wk E h157 1 3 300 #[oA a, oI x, oA q, oJ D, oT, oI (Int32.ofNat k155), oI r1, oJ R, oT, oI (2 : Int32), oJ est1, oT, oI q1, oJ z170, oT] [.int 1, .ref a102]
      refine K.iload dD1_300 rfl ?_
      refine K.iastore dD1_302 A159 (by decide) (by decide) g105 (fun h172 W173 A174 => ?_)
      have K175 := K160.wr W173 (Or.inr ks_a102)
      have F176 := F161.other W173 (Or.inl (Nat.ne_of_lt lt_a_a102))
      have F177 := F162.other W173 (Or.inl (Nat.ne_of_lt lt_a_a102))
      have F178 := F163.other W173 (Or.inl (Nat.ne_of_lt lt_a_a102))
      have I179 := I164.other W173 (Nat.ne_of_lt lt_mc_a102)
      have E180 := E165.wr W173
      have F181 := F166.other W173 (Or.inl (Nat.ne_of_lt lt_q_a102))
      have F182 := F167.other W173 (Or.inl (Nat.ne_of_lt lt_q_a102))
      have F183 := F168.other W173 (Or.inl (Nat.ne_of_lt lt_q_a102))
      refine K.iload dD1_303 rfl ?_
      refine K.i2l dD1_305 ?_
      refine K.ldc2J dD1_306 (wd187 hw) ?_
      refine K.land dD1_309 ?_
      obtain ⟨R1, eR1⟩ : ∃ x_ : Int64, x_ = r1.toInt64 &&& (4294967295 : Int64) := ⟨_, rfl⟩
      rw [← eR1]
      have hR1 := m32 r1
      rw [← eR1] at hR1
      refine K.lstore #[oA a, oI x, oA q, oJ D, oT, oI (Int32.ofNat k155), oI r1, oJ R1, oT, oI (2 : Int32), oJ est1, oT, oI q1, oJ z170, oT] dD1_310 rfl ?_
      refine K.goto dD1_312 ?_
      have hg2 := (show 0 ≤ uv r1 ∧ uv r1 < uv x from by rw [Q1.2]; exact ⟨Int.emod_nonneg _ (by omega), Int.emod_lt_of_pos _ (by omega)⟩)
      refine K.iinc ((1 : Int32)) #[oA a, oI x, oA q, oJ D, oT, oI (Int32.ofNat k155), oI r1, oJ R1, oT, oI (1 : Int32), oJ est1, oT, oI q1, oJ z170, oT] dD1_198 rfl rfl rfl ?_
      refine K.iload dD1_201 rfl ?_
      refine K.if_le dD1_203 (fun _ => ?_) (fun u => absurd (by decide) u)
      refine K.lload dD1_206 rfl ?_
      refine K.bipush (32 : Int32) dD1_208 rfl ?_
      refine K.lshl dD1_210 ?_
      refine K.aloadN dD1_211 rfl rfl ?_
      refine K.getF dD1_212 (wd160 hw) F177 ?_
      refine K.aloadN dD1_215 rfl rfl ?_
      refine K.getF dD1_216 (wd158 hw) F176 ?_
      refine K.aloadN dD1_219 rfl rfl ?_
      refine K.getF dD1_220 (wd162 hw) F178 ?_
      refine K.iadd dD1_223 ?_
      refine K.iload dD1_224 rfl ?_
      refine K.isub dD1_226 ?_
      show Wk E h172 1 3 227 #[oA a, oI x, oA q, oJ D, oT, oI (Int32.ofNat k155), oI r1, oJ R1, oT, oI (1 : Int32), oJ est1, oT, oI q1, oJ z170, oT] [.int 2, .ref mc, .long (R1 <<< ((32 : Int32) &&& 63).toInt64)]
      refine K.iaload (v := .int (gc 2)) dD1_227 I179 (by decide) (by decide) rfl ?_
      refine K.i2l dD1_228 ?_
      refine K.ldc2J dD1_229 (wd187 hw) ?_
      refine K.land dD1_232 ?_
      refine K.lor dD1_233 ?_
      obtain ⟨est2, eest2⟩ : ∃ x_ : Int64, x_ = (R1 <<< ((32 : Int32) &&& 63).toInt64) ||| (((gc 2).toInt64) &&& (4294967295 : Int64)) := ⟨_, rfl⟩
      rw [← eest2]
      have hE2 : uw est2 = uv r1 * 4294967296 + uv (gc 2) := by rw [eest2]; exact uw_chunkL (gc 2) hR1 hg2.1 (by omega)
      have rg2 := uv_rng (gc 2)
      have hb2 : uv r1 * 4294967296 + uv (gc 2) < uv x * 4294967296 := by omega
      refine K.lstore #[oA a, oI x, oA q, oJ D, oT, oI (Int32.ofNat k155), oI r1, oJ R1, oT, oI (1 : Int32), oJ est2, oT, oI q1, oJ z170, oT] dD1_234 rfl ?_
      refine K.lload dD1_236 rfl ?_
      refine K.lconst (0 : Int64) dD1_238 rfl ?_
      refine K.lc_lt dD1_239 dD1_240 (fun hc184 => ?_) (fun hc184 => ?_)
      · have hd31 : 2147483648 ≤ uv x := by have := own_le0 hE2 hc184; omega
        refine K.lload dD1_264 rfl ?_
        refine K.iloadN dD1_266 rfl ?_
        refine K.callS [.long est2, .int x] [] 0 1 3 dD1_267 (wd262 hw) (wd263 hw) (wd152 hw) (wd264 hw) (by decide) (rmDW l Z a0 hw est2 x h172 n0 hd31 (by rw [hE2]; exact hb2)) rfl (lenOf pd_18 rfl) rfl (Nat.le_of_eq rfl) (by decide) (by decide) rfl rfl (by decide) (by decide) (goJs fun z185 q186 => ?_)
        rw [hE2] at q186
        have Q2 := own_qrw q186 hx1 (by omega) hb2
        refine K.lstore #[oA a, oI x, oA q, oJ D, oT, oI (Int32.ofNat k155), oI r1, oJ R1, oT, oI (1 : Int32), oJ est2, oT, oI q1, oJ z185, oT] dD1_270 rfl ?_
        refine K.lload dD1_272 rfl ?_
        refine K.ldc2J dD1_274 (wd187 hw) ?_
        refine K.land dD1_277 ?_
        refine K.l2i dD1_278 ?_
        obtain ⟨q2, eq2⟩ : ∃ x_ : Int32, x_ = (z185 &&& (4294967295 : Int64)).toInt32 := ⟨_, rfl⟩
        rw [← eq2]
        refine K.istore #[oA a, oI x, oA q, oJ D, oT, oI (Int32.ofNat k155), oI r1, oJ R1, oT, oI (1 : Int32), oJ est2, oT, oI q2, oJ z185, oT] dD1_279 rfl ?_
        refine K.lload dD1_281 rfl ?_
        refine K.bipush (32 : Int32) dD1_283 rfl ?_
        refine K.lushr dD1_285 ?_
        refine K.l2i dD1_286 ?_
        obtain ⟨r2, er2⟩ : ∃ x_ : Int32, x_ = ((z185.toUInt64 >>> ((32 : Int32) &&& 63).toInt64.toUInt64).toInt64).toInt32 := ⟨_, rfl⟩
        rw [← er2]
        rw [← eq2, ← er2] at Q2
        refine K.istore #[oA a, oI x, oA q, oJ D, oT, oI (Int32.ofNat k155), oI r2, oJ R1, oT, oI (1 : Int32), oJ est2, oT, oI q2, oJ z185, oT] dD1_287 rfl ?_
        refine K.aloadN dD1_289 rfl rfl ?_
        refine K.getF dD1_290 (wd160 hw) F182 ?_
        refine K.aloadN dD1_293 rfl rfl ?_
        refine K.getF dD1_294 (wd162 hw) F178 ?_
        refine K.iload dD1_297 rfl ?_
        refine K.isub dD1_299 ?_
        show Wk E h172 1 3 300 #[oA a, oI x, oA q, oJ D, oT, oI (Int32.ofNat k155), oI r2, oJ R1, oT, oI (1 : Int32), oJ est2, oT, oI q2, oJ z185, oT] [.int 2, .ref a102]
        refine K.iload dD1_300 rfl ?_
        refine K.iastore dD1_302 A174 (by decide) (by decide) g105 (fun h187 W188 A189 => ?_)
        have K190 := K175.wr W188 (Or.inr ks_a102)
        have F191 := F176.other W188 (Or.inl (Nat.ne_of_lt lt_a_a102))
        have F192 := F177.other W188 (Or.inl (Nat.ne_of_lt lt_a_a102))
        have F193 := F178.other W188 (Or.inl (Nat.ne_of_lt lt_a_a102))
        have I194 := I179.other W188 (Nat.ne_of_lt lt_mc_a102)
        have E195 := E180.wr W188
        have F196 := F181.other W188 (Or.inl (Nat.ne_of_lt lt_q_a102))
        have F197 := F182.other W188 (Or.inl (Nat.ne_of_lt lt_q_a102))
        have F198 := F183.other W188 (Or.inl (Nat.ne_of_lt lt_q_a102))
        refine K.iload dD1_303 rfl ?_
        refine K.i2l dD1_305 ?_
        refine K.ldc2J dD1_306 (wd187 hw) ?_
        refine K.land dD1_309 ?_
        obtain ⟨R2, eR2⟩ : ∃ x_ : Int64, x_ = r2.toInt64 &&& (4294967295 : Int64) := ⟨_, rfl⟩
        rw [← eR2]
        have hR2 := m32 r2
        rw [← eR2] at hR2
        refine K.lstore #[oA a, oI x, oA q, oJ D, oT, oI (Int32.ofNat k155), oI r2, oJ R2, oT, oI (1 : Int32), oJ est2, oT, oI q2, oJ z185, oT] dD1_310 rfl ?_
        refine K.goto dD1_312 ?_
        refine K.iinc ((0 : Int32)) #[oA a, oI x, oA q, oJ D, oT, oI (Int32.ofNat k155), oI r2, oJ R2, oT, oI (0 : Int32), oJ est2, oT, oI q2, oJ z185, oT] dD1_198 rfl rfl rfl ?_
        refine K.iload dD1_201 rfl ?_
        refine K.if_le dD1_203 (fun u => absurd u (by decide)) (fun _ => ?_)
        obtain ⟨gf199, A200, E201⟩ := own_toF A189 (own_ifI (own_ifI (own_ifI zero_int _ _) _ _) _ _)
        have ev202 : gf199 1 = q1 := Value.int.inj ((E201 1).symm)
        refine K.aloadN dD1_315 rfl rfl ?_
        refine K.callV (a := q) [] [] 0 1 3 dD1_316 (wd189 hw) (wd190 hw) (wd192 hw) (wd191 hw) (wd152 hw) (wd193 hw) (by decide) (rmNM l Z a0 hw q a102 3 gf199 h187 n0 E195 F196 F197 F198 A200 gq (Nat.ne_of_gt lt_q_a102) (by decide) (by decide) (Or.inr ⟨by rw [ev202]; exact own_qpos Q1.1 hx1 (by omega), by decide⟩)) E195 rfl (lenOf pd_5 rfl) rfl (Nat.le_of_eq rfl) (by decide) (by decide) rfl rfl (by decide) (by decide) (goU fun h203 q204 => ?_)
        obtain ⟨K205, i206, hi207, hi208, F209, F210, F211⟩ := q204
        have K212 := K190.trans K205 (allS (Or.inl (mg 0 rfl)) all0)
        have F213 := F191.keep K205 (ninS naq nin0)
        have F214 := F192.keep K205 (ninS naq nin0)
        have F215 := F193.keep K205 (ninS naq nin0)
        have I216 := I194.keep K205 (ninS nmq nin0)
        have E217 := E195.keep K205
        have I218 := A200.keep K205 (ninS (Nat.ne_of_gt lt_q_a102) nin0)
        refine K.iload dD1_319 rfl ?_
        refine K.if_le dD1_321 (fun hc219 => ?_) (fun hc219 => ?_)
        · refine K.iload dD1_324 rfl ?_
          refine K.iloadN dD1_326 rfl ?_
          refine K.irem dD1_327 (own_xn hx1) ?_
          exact K.ireturn dD1_328 (Or.inl rfl) rfl (by decide) (by decide) ⟨_, rfl, K212, a102, i206, 3, _, ks_a102, g105, hi207, hi208, by decide, ⟨F209, F210, F211⟩, I218⟩
        · refine K.iload dD1_329 rfl ?_
          exact K.ireturn dD1_331 (Or.inl rfl) rfl (by decide) (by decide) ⟨_, rfl, K212, a102, i206, 3, _, ks_a102, g105, hi207, hi208, by decide, ⟨F209, F210, F211⟩, I218⟩
      · have Q2 := own_qr hE2 hD hx1 rD.2 hc184 hb2
        refine K.lload dD1_243 rfl ?_
        refine K.lloadN dD1_245 rfl ?_
        refine K.ldiv dD1_246 (own_Dn hD hx1) ?_
        refine K.l2i dD1_247 ?_
        obtain ⟨q2, eq2⟩ : ∃ x_ : Int32, x_ = (est2 / D).toInt32 := ⟨_, rfl⟩
        rw [← eq2]
        rw [← eq2] at Q2
        refine K.istore #[oA a, oI x, oA q, oJ D, oT, oI (Int32.ofNat k155), oI r1, oJ R1, oT, oI (1 : Int32), oJ est2, oT, oI q2, oJ z170, oT] dD1_248 rfl ?_
        refine K.lload dD1_250 rfl ?_
        refine K.iload dD1_252 rfl ?_
        refine K.i2l dD1_254 ?_
        refine K.lloadN dD1_255 rfl ?_
        refine K.lmul dD1_256 ?_
        refine K.lsub dD1_257 ?_
        refine K.l2i dD1_258 ?_
        obtain ⟨r2, er2⟩ : ∃ x_ : Int32, x_ = (est2 - (q2.toInt64 * D)).toInt32 := ⟨_, rfl⟩
        rw [← er2]
        rw [← er2] at Q2
        refine K.istore #[oA a, oI x, oA q, oJ D, oT, oI (Int32.ofNat k155), oI r2, oJ R1, oT, oI (1 : Int32), oJ est2, oT, oI q2, oJ z170, oT] dD1_259 rfl ?_
        refine K.goto dD1_261 ?_
        refine K.aloadN dD1_289 rfl rfl ?_
        refine K.getF dD1_290 (wd160 hw) F182 ?_
        refine K.aloadN dD1_293 rfl rfl ?_
        refine K.getF dD1_294 (wd162 hw) F178 ?_
        refine K.iload dD1_297 rfl ?_
        refine K.isub dD1_299 ?_
        show Wk E h172 1 3 300 #[oA a, oI x, oA q, oJ D, oT, oI (Int32.ofNat k155), oI r2, oJ R1, oT, oI (1 : Int32), oJ est2, oT, oI q2, oJ z170, oT] [.int 2, .ref a102]
        refine K.iload dD1_300 rfl ?_
        refine K.iastore dD1_302 A174 (by decide) (by decide) g105 (fun h220 W221 A222 => ?_)
        have K223 := K175.wr W221 (Or.inr ks_a102)
        have F224 := F176.other W221 (Or.inl (Nat.ne_of_lt lt_a_a102))
        have F225 := F177.other W221 (Or.inl (Nat.ne_of_lt lt_a_a102))
        have F226 := F178.other W221 (Or.inl (Nat.ne_of_lt lt_a_a102))
        have I227 := I179.other W221 (Nat.ne_of_lt lt_mc_a102)
        have E228 := E180.wr W221
        have F229 := F181.other W221 (Or.inl (Nat.ne_of_lt lt_q_a102))
        have F230 := F182.other W221 (Or.inl (Nat.ne_of_lt lt_q_a102))
        have F231 := F183.other W221 (Or.inl (Nat.ne_of_lt lt_q_a102))
        refine K.iload dD1_303 rfl ?_
        refine K.i2l dD1_305 ?_
        refine K.ldc2J dD1_306 (wd187 hw) ?_
        refine K.land dD1_309 ?_
        obtain ⟨R2, eR2⟩ : ∃ x_ : Int64, x_ = r2.toInt64 &&& (4294967295 : Int64) := ⟨_, rfl⟩
        rw [← eR2]
        have hR2 := m32 r2
        rw [← eR2] at hR2
        refine K.lstore #[oA a, oI x, oA q, oJ D, oT, oI (Int32.ofNat k155), oI r2, oJ R2, oT, oI (1 : Int32), oJ est2, oT, oI q2, oJ z170, oT] dD1_310 rfl ?_
        refine K.goto dD1_312 ?_
        refine K.iinc ((0 : Int32)) #[oA a, oI x, oA q, oJ D, oT, oI (Int32.ofNat k155), oI r2, oJ R2, oT, oI (0 : Int32), oJ est2, oT, oI q2, oJ z170, oT] dD1_198 rfl rfl rfl ?_
        refine K.iload dD1_201 rfl ?_
        refine K.if_le dD1_203 (fun u => absurd u (by decide)) (fun _ => ?_)
        obtain ⟨gf232, A233, E234⟩ := own_toF A222 (own_ifI (own_ifI (own_ifI zero_int _ _) _ _) _ _)
        have ev235 : gf232 1 = q1 := Value.int.inj ((E234 1).symm)
        refine K.aloadN dD1_315 rfl rfl ?_
        refine K.callV (a := q) [] [] 0 1 3 dD1_316 (wd189 hw) (wd190 hw) (wd192 hw) (wd191 hw) (wd152 hw) (wd193 hw) (by decide) (rmNM l Z a0 hw q a102 3 gf232 h220 n0 E228 F229 F230 F231 A233 gq (Nat.ne_of_gt lt_q_a102) (by decide) (by decide) (Or.inr ⟨by rw [ev235]; exact own_qpos Q1.1 hx1 (by omega), by decide⟩)) E228 rfl (lenOf pd_5 rfl) rfl (Nat.le_of_eq rfl) (by decide) (by decide) rfl rfl (by decide) (by decide) (goU fun h236 q237 => ?_)
        obtain ⟨K238, i239, hi240, hi241, F242, F243, F244⟩ := q237
        have K245 := K223.trans K238 (allS (Or.inl (mg 0 rfl)) all0)
        have F246 := F224.keep K238 (ninS naq nin0)
        have F247 := F225.keep K238 (ninS naq nin0)
        have F248 := F226.keep K238 (ninS naq nin0)
        have I249 := I227.keep K238 (ninS nmq nin0)
        have E250 := E228.keep K238
        have I251 := A233.keep K238 (ninS (Nat.ne_of_gt lt_q_a102) nin0)
        refine K.iload dD1_319 rfl ?_
        refine K.if_le dD1_321 (fun hc252 => ?_) (fun hc252 => ?_)
        · refine K.iload dD1_324 rfl ?_
          refine K.iloadN dD1_326 rfl ?_
          refine K.irem dD1_327 (own_xn hx1) ?_
          exact K.ireturn dD1_328 (Or.inl rfl) rfl (by decide) (by decide) ⟨_, rfl, K245, a102, i239, 3, _, ks_a102, g105, hi240, hi241, by decide, ⟨F242, F243, F244⟩, I251⟩
        · refine K.iload dD1_329 rfl ?_
          exact K.ireturn dD1_331 (Or.inl rfl) rfl (by decide) (by decide) ⟨_, rfl, K245, a102, i239, 3, _, ks_a102, g105, hi240, hi241, by decide, ⟨F242, F243, F244⟩, I251⟩
    · have Q1 := own_qr hE1 hD hx1 rD.2 hc169 hb1
      refine K.lload dD1_243 rfl ?_
      refine K.lloadN dD1_245 rfl ?_
      refine K.ldiv dD1_246 (own_Dn hD hx1) ?_
      refine K.l2i dD1_247 ?_
      obtain ⟨q1, eq1⟩ : ∃ x_ : Int32, x_ = (est1 / D).toInt32 := ⟨_, rfl⟩
      rw [← eq1]
      rw [← eq1] at Q1
      refine K.istore #[oA a, oI x, oA q, oJ D, oT, oI (Int32.ofNat k155), oI (gc 0), oJ R, oT, oI (2 : Int32), oJ est1, oT, oI q1, oU, oU] dD1_248 rfl ?_
      refine K.lload dD1_250 rfl ?_
      refine K.iload dD1_252 rfl ?_
      refine K.i2l dD1_254 ?_
      refine K.lloadN dD1_255 rfl ?_
      refine K.lmul dD1_256 ?_
      refine K.lsub dD1_257 ?_
      refine K.l2i dD1_258 ?_
      obtain ⟨r1, er1⟩ : ∃ x_ : Int32, x_ = (est1 - (q1.toInt64 * D)).toInt32 := ⟨_, rfl⟩
      rw [← er1]
      rw [← er1] at Q1
      refine K.istore #[oA a, oI x, oA q, oJ D, oT, oI (Int32.ofNat k155), oI r1, oJ R, oT, oI (2 : Int32), oJ est1, oT, oI q1, oU, oU] dD1_259 rfl ?_
      refine K.goto dD1_261 ?_
      refine K.aloadN dD1_289 rfl rfl ?_
      refine K.getF dD1_290 (wd160 hw) F167 ?_
      refine K.aloadN dD1_293 rfl rfl ?_
      refine K.getF dD1_294 (wd162 hw) F163 ?_
      refine K.iload dD1_297 rfl ?_
      refine K.isub dD1_299 ?_
      show Wk E h157 1 3 300 #[oA a, oI x, oA q, oJ D, oT, oI (Int32.ofNat k155), oI r1, oJ R, oT, oI (2 : Int32), oJ est1, oT, oI q1, oU, oU] [.int 1, .ref a102]
      refine K.iload dD1_300 rfl ?_
      refine K.iastore dD1_302 A159 (by decide) (by decide) g105 (fun h253 W254 A255 => ?_)
      have K256 := K160.wr W254 (Or.inr ks_a102)
      have F257 := F161.other W254 (Or.inl (Nat.ne_of_lt lt_a_a102))
      have F258 := F162.other W254 (Or.inl (Nat.ne_of_lt lt_a_a102))
      have F259 := F163.other W254 (Or.inl (Nat.ne_of_lt lt_a_a102))
      have I260 := I164.other W254 (Nat.ne_of_lt lt_mc_a102)
      have E261 := E165.wr W254
      have F262 := F166.other W254 (Or.inl (Nat.ne_of_lt lt_q_a102))
      have F263 := F167.other W254 (Or.inl (Nat.ne_of_lt lt_q_a102))
      have F264 := F168.other W254 (Or.inl (Nat.ne_of_lt lt_q_a102))
      refine K.iload dD1_303 rfl ?_
      refine K.i2l dD1_305 ?_
      refine K.ldc2J dD1_306 (wd187 hw) ?_
      refine K.land dD1_309 ?_
      obtain ⟨R1, eR1⟩ : ∃ x_ : Int64, x_ = r1.toInt64 &&& (4294967295 : Int64) := ⟨_, rfl⟩
      rw [← eR1]
      have hR1 := m32 r1
      rw [← eR1] at hR1
      refine K.lstore #[oA a, oI x, oA q, oJ D, oT, oI (Int32.ofNat k155), oI r1, oJ R1, oT, oI (2 : Int32), oJ est1, oT, oI q1, oU, oU] dD1_310 rfl ?_
      refine K.goto dD1_312 ?_
      have hg2 := (show 0 ≤ uv r1 ∧ uv r1 < uv x from by rw [Q1.2]; exact ⟨Int.emod_nonneg _ (by omega), Int.emod_lt_of_pos _ (by omega)⟩)
      refine K.iinc ((1 : Int32)) #[oA a, oI x, oA q, oJ D, oT, oI (Int32.ofNat k155), oI r1, oJ R1, oT, oI (1 : Int32), oJ est1, oT, oI q1, oU, oU] dD1_198 rfl rfl rfl ?_
      refine K.iload dD1_201 rfl ?_
      refine K.if_le dD1_203 (fun _ => ?_) (fun u => absurd (by decide) u)
      refine K.lload dD1_206 rfl ?_
      refine K.bipush (32 : Int32) dD1_208 rfl ?_
      refine K.lshl dD1_210 ?_
      refine K.aloadN dD1_211 rfl rfl ?_
      refine K.getF dD1_212 (wd160 hw) F258 ?_
      refine K.aloadN dD1_215 rfl rfl ?_
      refine K.getF dD1_216 (wd158 hw) F257 ?_
      refine K.aloadN dD1_219 rfl rfl ?_
      refine K.getF dD1_220 (wd162 hw) F259 ?_
      refine K.iadd dD1_223 ?_
      refine K.iload dD1_224 rfl ?_
      refine K.isub dD1_226 ?_
      show Wk E h253 1 3 227 #[oA a, oI x, oA q, oJ D, oT, oI (Int32.ofNat k155), oI r1, oJ R1, oT, oI (1 : Int32), oJ est1, oT, oI q1, oU, oU] [.int 2, .ref mc, .long (R1 <<< ((32 : Int32) &&& 63).toInt64)]
      refine K.iaload (v := .int (gc 2)) dD1_227 I260 (by decide) (by decide) rfl ?_
      refine K.i2l dD1_228 ?_
      refine K.ldc2J dD1_229 (wd187 hw) ?_
      refine K.land dD1_232 ?_
      refine K.lor dD1_233 ?_
      obtain ⟨est2, eest2⟩ : ∃ x_ : Int64, x_ = (R1 <<< ((32 : Int32) &&& 63).toInt64) ||| (((gc 2).toInt64) &&& (4294967295 : Int64)) := ⟨_, rfl⟩
      rw [← eest2]
      have hE2 : uw est2 = uv r1 * 4294967296 + uv (gc 2) := by rw [eest2]; exact uw_chunkL (gc 2) hR1 hg2.1 (by omega)
      have rg2 := uv_rng (gc 2)
      have hb2 : uv r1 * 4294967296 + uv (gc 2) < uv x * 4294967296 := by omega
      refine K.lstore #[oA a, oI x, oA q, oJ D, oT, oI (Int32.ofNat k155), oI r1, oJ R1, oT, oI (1 : Int32), oJ est2, oT, oI q1, oU, oU] dD1_234 rfl ?_
      refine K.lload dD1_236 rfl ?_
      refine K.lconst (0 : Int64) dD1_238 rfl ?_
      refine K.lc_lt dD1_239 dD1_240 (fun hc265 => ?_) (fun hc265 => ?_)
      · have hd31 : 2147483648 ≤ uv x := by have := own_le0 hE2 hc265; omega
        refine K.lload dD1_264 rfl ?_
        refine K.iloadN dD1_266 rfl ?_
        refine K.callS [.long est2, .int x] [] 0 1 3 dD1_267 (wd262 hw) (wd263 hw) (wd152 hw) (wd264 hw) (by decide) (rmDW l Z a0 hw est2 x h253 n0 hd31 (by rw [hE2]; exact hb2)) rfl (lenOf pd_18 rfl) rfl (Nat.le_of_eq rfl) (by decide) (by decide) rfl rfl (by decide) (by decide) (goJs fun z266 q267 => ?_)
        rw [hE2] at q267
        have Q2 := own_qrw q267 hx1 (by omega) hb2
        refine K.lstore #[oA a, oI x, oA q, oJ D, oT, oI (Int32.ofNat k155), oI r1, oJ R1, oT, oI (1 : Int32), oJ est2, oT, oI q1, oJ z266, oT] dD1_270 rfl ?_
        refine K.lload dD1_272 rfl ?_
        refine K.ldc2J dD1_274 (wd187 hw) ?_
        refine K.land dD1_277 ?_
        refine K.l2i dD1_278 ?_
        obtain ⟨q2, eq2⟩ : ∃ x_ : Int32, x_ = (z266 &&& (4294967295 : Int64)).toInt32 := ⟨_, rfl⟩
        rw [← eq2]
        refine K.istore #[oA a, oI x, oA q, oJ D, oT, oI (Int32.ofNat k155), oI r1, oJ R1, oT, oI (1 : Int32), oJ est2, oT, oI q2, oJ z266, oT] dD1_279 rfl ?_
        refine K.lload dD1_281 rfl ?_
        refine K.bipush (32 : Int32) dD1_283 rfl ?_
        refine K.lushr dD1_285 ?_
        refine K.l2i dD1_286 ?_
        obtain ⟨r2, er2⟩ : ∃ x_ : Int32, x_ = ((z266.toUInt64 >>> ((32 : Int32) &&& 63).toInt64.toUInt64).toInt64).toInt32 := ⟨_, rfl⟩
        rw [← er2]
        rw [← eq2, ← er2] at Q2
        refine K.istore #[oA a, oI x, oA q, oJ D, oT, oI (Int32.ofNat k155), oI r2, oJ R1, oT, oI (1 : Int32), oJ est2, oT, oI q2, oJ z266, oT] dD1_287 rfl ?_
        refine K.aloadN dD1_289 rfl rfl ?_
        refine K.getF dD1_290 (wd160 hw) F263 ?_
        refine K.aloadN dD1_293 rfl rfl ?_
        refine K.getF dD1_294 (wd162 hw) F259 ?_
        refine K.iload dD1_297 rfl ?_
        refine K.isub dD1_299 ?_
        show Wk E h253 1 3 300 #[oA a, oI x, oA q, oJ D, oT, oI (Int32.ofNat k155), oI r2, oJ R1, oT, oI (1 : Int32), oJ est2, oT, oI q2, oJ z266, oT] [.int 2, .ref a102]
        refine K.iload dD1_300 rfl ?_
        refine K.iastore dD1_302 A255 (by decide) (by decide) g105 (fun h268 W269 A270 => ?_)
        have K271 := K256.wr W269 (Or.inr ks_a102)
        have F272 := F257.other W269 (Or.inl (Nat.ne_of_lt lt_a_a102))
        have F273 := F258.other W269 (Or.inl (Nat.ne_of_lt lt_a_a102))
        have F274 := F259.other W269 (Or.inl (Nat.ne_of_lt lt_a_a102))
        have I275 := I260.other W269 (Nat.ne_of_lt lt_mc_a102)
        have E276 := E261.wr W269
        have F277 := F262.other W269 (Or.inl (Nat.ne_of_lt lt_q_a102))
        have F278 := F263.other W269 (Or.inl (Nat.ne_of_lt lt_q_a102))
        have F279 := F264.other W269 (Or.inl (Nat.ne_of_lt lt_q_a102))
        refine K.iload dD1_303 rfl ?_
        refine K.i2l dD1_305 ?_
        refine K.ldc2J dD1_306 (wd187 hw) ?_
        refine K.land dD1_309 ?_
        obtain ⟨R2, eR2⟩ : ∃ x_ : Int64, x_ = r2.toInt64 &&& (4294967295 : Int64) := ⟨_, rfl⟩
        rw [← eR2]
        have hR2 := m32 r2
        rw [← eR2] at hR2
        refine K.lstore #[oA a, oI x, oA q, oJ D, oT, oI (Int32.ofNat k155), oI r2, oJ R2, oT, oI (1 : Int32), oJ est2, oT, oI q2, oJ z266, oT] dD1_310 rfl ?_
        refine K.goto dD1_312 ?_
        refine K.iinc ((0 : Int32)) #[oA a, oI x, oA q, oJ D, oT, oI (Int32.ofNat k155), oI r2, oJ R2, oT, oI (0 : Int32), oJ est2, oT, oI q2, oJ z266, oT] dD1_198 rfl rfl rfl ?_
        refine K.iload dD1_201 rfl ?_
        refine K.if_le dD1_203 (fun u => absurd u (by decide)) (fun _ => ?_)
        obtain ⟨gf280, A281, E282⟩ := own_toF A270 (own_ifI (own_ifI (own_ifI zero_int _ _) _ _) _ _)
        have ev283 : gf280 1 = q1 := Value.int.inj ((E282 1).symm)
        refine K.aloadN dD1_315 rfl rfl ?_
        refine K.callV (a := q) [] [] 0 1 3 dD1_316 (wd189 hw) (wd190 hw) (wd192 hw) (wd191 hw) (wd152 hw) (wd193 hw) (by decide) (rmNM l Z a0 hw q a102 3 gf280 h268 n0 E276 F277 F278 F279 A281 gq (Nat.ne_of_gt lt_q_a102) (by decide) (by decide) (Or.inr ⟨by rw [ev283]; exact own_qpos Q1.1 hx1 (by omega), by decide⟩)) E276 rfl (lenOf pd_5 rfl) rfl (Nat.le_of_eq rfl) (by decide) (by decide) rfl rfl (by decide) (by decide) (goU fun h284 q285 => ?_)
        obtain ⟨K286, i287, hi288, hi289, F290, F291, F292⟩ := q285
        have K293 := K271.trans K286 (allS (Or.inl (mg 0 rfl)) all0)
        have F294 := F272.keep K286 (ninS naq nin0)
        have F295 := F273.keep K286 (ninS naq nin0)
        have F296 := F274.keep K286 (ninS naq nin0)
        have I297 := I275.keep K286 (ninS nmq nin0)
        have E298 := E276.keep K286
        have I299 := A281.keep K286 (ninS (Nat.ne_of_gt lt_q_a102) nin0)
        refine K.iload dD1_319 rfl ?_
        refine K.if_le dD1_321 (fun hc300 => ?_) (fun hc300 => ?_)
        · refine K.iload dD1_324 rfl ?_
          refine K.iloadN dD1_326 rfl ?_
          refine K.irem dD1_327 (own_xn hx1) ?_
          exact K.ireturn dD1_328 (Or.inl rfl) rfl (by decide) (by decide) ⟨_, rfl, K293, a102, i287, 3, _, ks_a102, g105, hi288, hi289, by decide, ⟨F290, F291, F292⟩, I299⟩
        · refine K.iload dD1_329 rfl ?_
          exact K.ireturn dD1_331 (Or.inl rfl) rfl (by decide) (by decide) ⟨_, rfl, K293, a102, i287, 3, _, ks_a102, g105, hi288, hi289, by decide, ⟨F290, F291, F292⟩, I299⟩
      · have Q2 := own_qr hE2 hD hx1 rD.2 hc265 hb2
        refine K.lload dD1_243 rfl ?_
        refine K.lloadN dD1_245 rfl ?_
        refine K.ldiv dD1_246 (own_Dn hD hx1) ?_
        refine K.l2i dD1_247 ?_
        obtain ⟨q2, eq2⟩ : ∃ x_ : Int32, x_ = (est2 / D).toInt32 := ⟨_, rfl⟩
        rw [← eq2]
        rw [← eq2] at Q2
        refine K.istore #[oA a, oI x, oA q, oJ D, oT, oI (Int32.ofNat k155), oI r1, oJ R1, oT, oI (1 : Int32), oJ est2, oT, oI q2, oU, oU] dD1_248 rfl ?_
        refine K.lload dD1_250 rfl ?_
        refine K.iload dD1_252 rfl ?_
        refine K.i2l dD1_254 ?_
        refine K.lloadN dD1_255 rfl ?_
        refine K.lmul dD1_256 ?_
        refine K.lsub dD1_257 ?_
        refine K.l2i dD1_258 ?_
        obtain ⟨r2, er2⟩ : ∃ x_ : Int32, x_ = (est2 - (q2.toInt64 * D)).toInt32 := ⟨_, rfl⟩
        rw [← er2]
        rw [← er2] at Q2
        refine K.istore #[oA a, oI x, oA q, oJ D, oT, oI (Int32.ofNat k155), oI r2, oJ R1, oT, oI (1 : Int32), oJ est2, oT, oI q2, oU, oU] dD1_259 rfl ?_
        refine K.goto dD1_261 ?_
        refine K.aloadN dD1_289 rfl rfl ?_
        refine K.getF dD1_290 (wd160 hw) F263 ?_
        refine K.aloadN dD1_293 rfl rfl ?_
        refine K.getF dD1_294 (wd162 hw) F259 ?_
        refine K.iload dD1_297 rfl ?_
        refine K.isub dD1_299 ?_
        show Wk E h253 1 3 300 #[oA a, oI x, oA q, oJ D, oT, oI (Int32.ofNat k155), oI r2, oJ R1, oT, oI (1 : Int32), oJ est2, oT, oI q2, oU, oU] [.int 2, .ref a102]
        refine K.iload dD1_300 rfl ?_
        refine K.iastore dD1_302 A255 (by decide) (by decide) g105 (fun h301 W302 A303 => ?_)
        have K304 := K256.wr W302 (Or.inr ks_a102)
        have F305 := F257.other W302 (Or.inl (Nat.ne_of_lt lt_a_a102))
        have F306 := F258.other W302 (Or.inl (Nat.ne_of_lt lt_a_a102))
        have F307 := F259.other W302 (Or.inl (Nat.ne_of_lt lt_a_a102))
        have I308 := I260.other W302 (Nat.ne_of_lt lt_mc_a102)
        have E309 := E261.wr W302
        have F310 := F262.other W302 (Or.inl (Nat.ne_of_lt lt_q_a102))
        have F311 := F263.other W302 (Or.inl (Nat.ne_of_lt lt_q_a102))
        have F312 := F264.other W302 (Or.inl (Nat.ne_of_lt lt_q_a102))
        refine K.iload dD1_303 rfl ?_
        refine K.i2l dD1_305 ?_
        refine K.ldc2J dD1_306 (wd187 hw) ?_
        refine K.land dD1_309 ?_
        obtain ⟨R2, eR2⟩ : ∃ x_ : Int64, x_ = r2.toInt64 &&& (4294967295 : Int64) := ⟨_, rfl⟩
        rw [← eR2]
        have hR2 := m32 r2
        rw [← eR2] at hR2
        refine K.lstore #[oA a, oI x, oA q, oJ D, oT, oI (Int32.ofNat k155), oI r2, oJ R2, oT, oI (1 : Int32), oJ est2, oT, oI q2, oU, oU] dD1_310 rfl ?_
        refine K.goto dD1_312 ?_
        refine K.iinc ((0 : Int32)) #[oA a, oI x, oA q, oJ D, oT, oI (Int32.ofNat k155), oI r2, oJ R2, oT, oI (0 : Int32), oJ est2, oT, oI q2, oU, oU] dD1_198 rfl rfl rfl ?_
        refine K.iload dD1_201 rfl ?_
        refine K.if_le dD1_203 (fun u => absurd u (by decide)) (fun _ => ?_)
        obtain ⟨gf313, A314, E315⟩ := own_toF A303 (own_ifI (own_ifI (own_ifI zero_int _ _) _ _) _ _)
        have ev316 : gf313 1 = q1 := Value.int.inj ((E315 1).symm)
        refine K.aloadN dD1_315 rfl rfl ?_
        refine K.callV (a := q) [] [] 0 1 3 dD1_316 (wd189 hw) (wd190 hw) (wd192 hw) (wd191 hw) (wd152 hw) (wd193 hw) (by decide) (rmNM l Z a0 hw q a102 3 gf313 h301 n0 E309 F310 F311 F312 A314 gq (Nat.ne_of_gt lt_q_a102) (by decide) (by decide) (Or.inr ⟨by rw [ev316]; exact own_qpos Q1.1 hx1 (by omega), by decide⟩)) E309 rfl (lenOf pd_5 rfl) rfl (Nat.le_of_eq rfl) (by decide) (by decide) rfl rfl (by decide) (by decide) (goU fun h317 q318 => ?_)
        obtain ⟨K319, i320, hi321, hi322, F323, F324, F325⟩ := q318
        have K326 := K304.trans K319 (allS (Or.inl (mg 0 rfl)) all0)
        have F327 := F305.keep K319 (ninS naq nin0)
        have F328 := F306.keep K319 (ninS naq nin0)
        have F329 := F307.keep K319 (ninS naq nin0)
        have I330 := I308.keep K319 (ninS nmq nin0)
        have E331 := E309.keep K319
        have I332 := A314.keep K319 (ninS (Nat.ne_of_gt lt_q_a102) nin0)
        refine K.iload dD1_319 rfl ?_
        refine K.if_le dD1_321 (fun hc333 => ?_) (fun hc333 => ?_)
        · refine K.iload dD1_324 rfl ?_
          refine K.iloadN dD1_326 rfl ?_
          refine K.irem dD1_327 (own_xn hx1) ?_
          exact K.ireturn dD1_328 (Or.inl rfl) rfl (by decide) (by decide) ⟨_, rfl, K326, a102, i320, 3, _, ks_a102, g105, hi321, hi322, by decide, ⟨F323, F324, F325⟩, I332⟩
        · refine K.iload dD1_329 rfl ?_
          exact K.ireturn dD1_331 (Or.inl rfl) rfl (by decide) (by decide) ⟨_, rfl, K326, a102, i320, 3, _, ks_a102, g105, hi321, hi322, by decide, ⟨F323, F324, F325⟩, I332⟩
theorem rmDM (l : Launch) (Z : State) (a0 : Array Value) (hw : Hw Z a0) (a b q mc md c : Addr) (kc : Nat) (gc gd : Nat → Int32) (f : Int32 → Value) (h : Heap) (n0 : Nat) (PE : Exa Z h a "java/math/MutableBigInteger") (P1 : Fld Z h a "java/math/MutableBigInteger" "offset" "I" (.int 0)) (P2 : Fld Z h a "java/math/MutableBigInteger" "value" "[I" (.ref mc)) (P3 : Fld Z h a "java/math/MutableBigInteger" "intLen" "I" (.int (Int32.ofNat kc))) (PA : Ia Z h mc .int (Int32.ofNat kc) (intF gc)) (B1 : Fld Z h b "java/math/MutableBigInteger" "offset" "I" (.int 0)) (B2 : Fld Z h b "java/math/MutableBigInteger" "value" "[I" (.ref md)) (B3 : Fld Z h b "java/math/MutableBigInteger" "intLen" "I" (.int (Int32.ofNat 2))) (BA : Ia Z h md .int (Int32.ofNat 2) (intF gd)) (QE : Exa Z h q "java/math/MutableBigInteger") (Q1 : Fld Z h q "java/math/MutableBigInteger" "offset" "I" (.int 0)) (Q2 : Fld Z h q "java/math/MutableBigInteger" "value" "[I" (.ref c)) (Q3 : Fld Z h q "java/math/MutableBigInteger" "intLen" "I" (.int 0)) (CA : Ia Z h c .int 1 f) (geq : n0 ≤ q) (n_a : a ≠ q) (n_b : b ≠ q) (n_mc : mc ≠ q) (n_md : md ≠ q) (n_c : c ≠ q) (hT : TwoW kc (uv (gc 0)) (uv (gd 0))) : Con l Z ⟨"java/math/MutableBigInteger", "divideMagnitude", "(Ljava/math/MutableBigInteger;Ljava/math/MutableBigInteger;Z)Ljava/math/MutableBigInteger;"⟩ jdk_2101_method_65_code 28 (some (.object "java/math/MutableBigInteger")) ⟨2, 4, 13, 26⟩ #[.ref a, .ref b, .ref q, .int 0] h n0 (fun vr h' => vr = some .null ∧ (Keep h h' [q] ∧ ∃ (m_ : Addr) (i_ k_ : Nat) (g_ : Nat → Int32), h.size ≤ m_ ∧ n0 ≤ m_ ∧ i_ ≤ 1 ∧ i_ + 2 ≤ k_ ∧ k_ ≤ 4 ∧ (Fld Z h' q "java/math/MutableBigInteger" "offset" "I" (.int (Int32.ofNat i_)) ∧ Fld Z h' q "java/math/MutableBigInteger" "value" "[I" (.ref m_) ∧ Fld Z h' q "java/math/MutableBigInteger" "intLen" "I" (.int (Int32.ofNat (k_ - i_)))) ∧ Ia Z h' m_ .int (Int32.ofNat k_) (intF g_))) := by
  refine Con.of pnDM (fun m_ => efDM m_ a b q (0 : Int32)) (fun E K => ?_)
  have J2 : ∀ (h1 : Heap) (dv ra rm qa : Addr) (s : Nat) (g gq ga : Nat → Int32) (D : Int64) (z16 z17 z18 z19 z20 z21 : Int32) (s22 s23 s24 s25 s26 s27 : Slot), G2 s22 s23 → G2 s24 s25 → G2 s26 s27 → Exa Z h1 a "java/math/MutableBigInteger" → Fld Z h1 rm "java/math/MutableBigInteger" "offset" "I" (.int 0) → Fld Z h1 rm "java/math/MutableBigInteger" "value" "[I" (.ref ra) → Ia Z h1 dv .int (Int32.ofNat 2) (intF ga) → Ia Z h1 ra .int (Int32.ofNat 5) (intF g) → Exa Z h1 q "java/math/MutableBigInteger" → Fld Z h1 q "java/math/MutableBigInteger" "offset" "I" (.int 0) → Fld Z h1 q "java/math/MutableBigInteger" "value" "[I" (.ref qa) → Fld Z h1 q "java/math/MutableBigInteger" "intLen" "I" (.int 3) → Ia Z h1 qa .int (Int32.ofNat 3) (intF gq) → Keep h h1 [q] → n0 ≤ ra → n0 ≤ qa → h.size ≤ ra → h.size ≤ qa → ra ≠ dv → rm ≠ ra → rm ≠ qa → qa ≠ ra → dv ≠ qa → q ≠ ra → q ≠ qa → rm ≠ q → dv ≠ q → ra ≠ q → 2147483648 ≤ uv (ga 0) → D.toInt = uv (ga 0) → uv (g 2) * 4294967296 + uv (g 3) < uv (ga 0) * 4294967296 + uv (ga 1) → (¬ gq 0 = 0 ∨ ¬ gq 1 = 0) → Wk E h1 4 13 423 #[oA a, oA b, oA q, oI (0 : Int32), oI (Int32.ofNat s), oI (2 : Int32), oA dv, oA rm, oI (Int32.ofNat 4), oI (3 : Int32), oA qa, oI (ga 0), oJ D, oT, oI (ga 1), oI (2 : Int32), oI z16, oI z17, oI z18, oI z19, oI z20, oI z21, s22, s23, s24, s25, s26, s27] [] := by
    as_aux_lemma =>
      intro h1 dv ra rm qa s g gq ga D z16 z17 z18 z19 z20 z21 s22 s23 s24 s25 s26 s27 p22 p24 p26 ea fr1 fr2 av ar xq fq1 fq2 fq3 aq kk gra gqa sra sqa n1 n2 n3 n4 n5 n6 n7 n8 n9 n10 hdh hD hinv hor
      refine K.iload dDM_423 rfl ?_
      refine K.iload dDM_425 rfl ?_
      refine K.iconst (1 : Int32) dDM_427 rfl ?_
      refine K.isub dDM_428 ?_
      refine K.ic_ge dDM_429 (fun u => absurd u (by decide)) (fun _ => ?_)
      refine K.iconst (0 : Int32) dDM_828 rfl ?_
      refine K.istore #[oA a, oA b, oA q, oI (0 : Int32), oI (Int32.ofNat s), oI (2 : Int32), oA dv, oA rm, oI (Int32.ofNat 4), oI (3 : Int32), oA qa, oI (ga 0), oJ D, oT, oI (ga 1), oI (0 : Int32), oI z16, oI z17, oI z18, oI z19, oI z20, oI z21, s22, s23, s24, s25, s26, s27] dDM_829 rfl ?_
      refine K.iconst (0 : Int32) dDM_831 rfl ?_
      refine K.istore #[oA a, oA b, oA q, oI (0 : Int32), oI (Int32.ofNat s), oI (2 : Int32), oA dv, oA rm, oI (Int32.ofNat 4), oI (3 : Int32), oA qa, oI (ga 0), oJ D, oT, oI (ga 1), oI (0 : Int32), oI (0 : Int32), oI z17, oI z18, oI z19, oI z20, oI z21, s22, s23, s24, s25, s26, s27] dDM_832 rfl ?_
      refine K.iconst (0 : Int32) dDM_834 rfl ?_
      refine K.istore #[oA a, oA b, oA q, oI (0 : Int32), oI (Int32.ofNat s), oI (2 : Int32), oA dv, oA rm, oI (Int32.ofNat 4), oI (3 : Int32), oA qa, oI (ga 0), oJ D, oT, oI (ga 1), oI (0 : Int32), oI (0 : Int32), oI (0 : Int32), oI z18, oI z19, oI z20, oI z21, s22, s23, s24, s25, s26, s27] dDM_835 rfl ?_
      refine K.aload dDM_837 rfl rfl ?_
      refine K.getF dDM_839 (wd160 hw) fr2 ?_
      refine K.iload dDM_842 rfl ?_
      refine K.iconst (1 : Int32) dDM_844 rfl ?_
      refine K.isub dDM_845 ?_
      refine K.aload dDM_846 rfl rfl ?_
      refine K.getF dDM_848 (wd158 hw) fr1 ?_
      refine K.iadd dDM_851 ?_
      show Wk E h1 4 13 852 #[oA a, oA b, oA q, oI (0 : Int32), oI (Int32.ofNat s), oI (2 : Int32), oA dv, oA rm, oI (Int32.ofNat 4), oI (3 : Int32), oA qa, oI (ga 0), oJ D, oT, oI (ga 1), oI (0 : Int32), oI (0 : Int32), oI (0 : Int32), oI z18, oI z19, oI z20, oI z21, s22, s23, s24, s25, s26, s27] [.int (Int32.ofNat 2), .ref ra]
      refine K.iaload (v := .int (g 2)) dDM_852 ar (by decide) (by decide) rfl ?_
      refine K.istore #[oA a, oA b, oA q, oI (0 : Int32), oI (Int32.ofNat s), oI (2 : Int32), oA dv, oA rm, oI (Int32.ofNat 4), oI (3 : Int32), oA qa, oI (ga 0), oJ D, oT, oI (ga 1), oI (0 : Int32), oI (0 : Int32), oI (0 : Int32), oI (g 2), oI z19, oI z20, oI z21, s22, s23, s24, s25, s26, s27] dDM_853 rfl ?_
      refine K.iload dDM_855 rfl ?_
      refine K.ldcI dDM_857 (wd261 hw) ?_
      refine K.iadd dDM_859 ?_
      refine K.istore #[oA a, oA b, oA q, oI (0 : Int32), oI (Int32.ofNat s), oI (2 : Int32), oA dv, oA rm, oI (Int32.ofNat 4), oI (3 : Int32), oA qa, oI (ga 0), oJ D, oT, oI (ga 1), oI (0 : Int32), oI (0 : Int32), oI (0 : Int32), oI (g 2), oI ((g 2) + (-2147483648 : Int32)), oI z20, oI z21, s22, s23, s24, s25, s26, s27] dDM_860 rfl ?_
      refine K.aload dDM_862 rfl rfl ?_
      refine K.getF dDM_864 (wd160 hw) fr2 ?_
      refine K.iload dDM_867 rfl ?_
      refine K.aload dDM_869 rfl rfl ?_
      refine K.getF dDM_871 (wd158 hw) fr1 ?_
      refine K.iadd dDM_874 ?_
      show Wk E h1 4 13 875 #[oA a, oA b, oA q, oI (0 : Int32), oI (Int32.ofNat s), oI (2 : Int32), oA dv, oA rm, oI (Int32.ofNat 4), oI (3 : Int32), oA qa, oI (ga 0), oJ D, oT, oI (ga 1), oI (0 : Int32), oI (0 : Int32), oI (0 : Int32), oI (g 2), oI ((g 2) + (-2147483648 : Int32)), oI z20, oI z21, s22, s23, s24, s25, s26, s27] [.int (Int32.ofNat 3), .ref ra]
      refine K.iaload (v := .int (g 3)) dDM_875 ar (by decide) (by decide) rfl ?_
      refine K.istore #[oA a, oA b, oA q, oI (0 : Int32), oI (Int32.ofNat s), oI (2 : Int32), oA dv, oA rm, oI (Int32.ofNat 4), oI (3 : Int32), oA qa, oI (ga 0), oJ D, oT, oI (ga 1), oI (0 : Int32), oI (0 : Int32), oI (0 : Int32), oI (g 2), oI ((g 2) + (-2147483648 : Int32)), oI (g 3), oI z21, s22, s23, s24, s25, s26, s27] dDM_876 rfl ?_
      refine K.iload dDM_878 rfl ?_
      refine K.iload dDM_880 rfl ?_
      have rdh := uv_rng (ga 0)
      have r2_ := uv_rng (g 2)
      have r3_ := uv_rng (g 3)
      have J101 : ∀ (qh qr sk : Int32) (x21 x23 x25 : Int64), Wk E h1 4 13 1133 #[oA a, oA b, oA q, oI (0 : Int32), oI (Int32.ofNat s), oI (2 : Int32), oA dv, oA rm, oI (Int32.ofNat 4), oI (3 : Int32), oA qa, oI (ga 0), oJ D, oT, oI (ga 1), oI qh, oI qr, oI sk, oI (g 2), oI (g 2 + (-2147483648 : Int32)), oI (g 3), oJ x21, oT, oJ x23, oT, oJ x25, oT, oU] [] := by
        intro qh qr sk x21 x23 x25
        refine K.aload dDM_1133 rfl rfl ?_
        refine K.getF dDM_1135 (wd160 hw) fr2 ?_
        refine K.iload dDM_1138 rfl ?_
        refine K.iconst (1 : Int32) dDM_1140 rfl ?_
        refine K.isub dDM_1141 ?_
        refine K.aload dDM_1142 rfl rfl ?_
        refine K.getF dDM_1144 (wd158 hw) fr1 ?_
        refine K.iadd dDM_1147 ?_
        show Wk E h1 4 13 1148 #[oA a, oA b, oA q, oI (0 : Int32), oI (Int32.ofNat s), oI (2 : Int32), oA dv, oA rm, oI (Int32.ofNat 4), oI (3 : Int32), oA qa, oI (ga 0), oJ D, oT, oI (ga 1), oI qh, oI qr, oI sk, oI (g 2), oI (g 2 + (-2147483648 : Int32)), oI (g 3), oJ x21, oT, oJ x23, oT, oJ x25, oT, oU] [.int (Int32.ofNat 2), .ref ra]
        refine K.iconst (0 : Int32) dDM_1148 rfl ?_
        refine K.iastore dDM_1149 ar (by decide) (by decide) gra (fun h102 W103 A104 => ?_)
        have K105 := kk.wr W103 (Or.inr sra)
        have E106 := ea.wr W103
        have F107 := fr1.other W103 (Or.inl n2)
        have F108 := fr2.other W103 (Or.inl n2)
        have I109 := av.other W103 (Ne.symm n1)
        have E110 := xq.wr W103
        have F111 := fq1.other W103 (Or.inl n6)
        have F112 := fq2.other W103 (Or.inl n6)
        have F113 := fq3.other W103 (Or.inl n6)
        have I114 := aq.other W103 n4
        have A115 := A104.congr (own_upd g (c := 2) (by decide) 0 _)
        refine K.iloadN dDM_1150 rfl ?_
        refine K.if_eq dDM_1151 (fun _ => ?_) (fun u => absurd rfl u)
        refine K.aloadN dDM_1184 rfl rfl ?_
        refine K.aload dDM_1185 rfl rfl ?_
        refine K.getF dDM_1187 (wd160 hw) F108 ?_
        refine K.aload dDM_1190 rfl rfl ?_
        refine K.iload dDM_1192 rfl ?_
        refine K.iload dDM_1194 rfl ?_
        refine K.iload dDM_1196 rfl ?_
        refine K.iconst (1 : Int32) dDM_1198 rfl ?_
        refine K.isub dDM_1199 ?_
        refine K.aload dDM_1200 rfl rfl ?_
        refine K.getF dDM_1202 (wd158 hw) F107 ?_
        refine K.iadd dDM_1205 ?_
        show Wk E h102 4 13 1206 #[oA a, oA b, oA q, oI (0 : Int32), oI (Int32.ofNat s), oI (2 : Int32), oA dv, oA rm, oI (Int32.ofNat 4), oI (3 : Int32), oA qa, oI (ga 0), oJ D, oT, oI (ga 1), oI qh, oI qr, oI sk, oI (g 2), oI (g 2 + (-2147483648 : Int32)), oI (g 3), oJ x21, oT, oJ x23, oT, oJ x25, oT, oU] [.int 2, .int 2, .int qh, .ref dv, .ref ra, .ref a]
        refine K.callP (a := a) [.ref ra, .ref dv, .int qh, .int 2, .int 2] [] 0 4 13 dDM_1206 (wd276 hw) (wd278 hw) (wd279 hw) (wd277 hw) (wd152 hw) (wd280 hw) (by decide) (rmMW l Z a0 hw a ra dv (upd g 2 0) ga qh h102 n0 A115 I109) E106 rfl (lenOf pd_19 rfl) rfl (Nat.le_of_eq rfl) (by decide) (by decide) rfl rfl (by decide) (by decide) (goIs fun z116 q117 => ?_)
        refine K.istore #[oA a, oA b, oA q, oI (0 : Int32), oI (Int32.ofNat s), oI (2 : Int32), oA dv, oA rm, oI (Int32.ofNat 4), oI (3 : Int32), oA qa, oI (ga 0), oJ D, oT, oI (ga 1), oI qh, oI qr, oI sk, oI (g 2), oI (g 2 + (-2147483648 : Int32)), oI (g 3), oI z116, oU, oJ x23, oT, oJ x25, oT, oU] dDM_1209 rfl ?_
        refine K.iload dDM_1211 rfl ?_
        refine K.ldcI dDM_1213 (wd261 hw) ?_
        refine K.iadd dDM_1215 ?_
        refine K.iload dDM_1216 rfl ?_
        refine K.ic_le dDM_1218 (fun hc118 => ?_) (fun hc118 => ?_)
        · refine K.iloadN dDM_1221 rfl ?_
          refine K.if_eq dDM_1222 (fun _ => ?_) (fun u => absurd rfl u)
          refine K.iinc (qh + (-1)) #[oA a, oA b, oA q, oI (0 : Int32), oI (Int32.ofNat s), oI (2 : Int32), oA dv, oA rm, oI (Int32.ofNat 4), oI (3 : Int32), oA qa, oI (ga 0), oJ D, oT, oI (ga 1), oI (qh + (-1)), oI qr, oI sk, oI (g 2), oI (g 2 + (-2147483648 : Int32)), oI (g 3), oI z116, oU, oJ x23, oT, oJ x25, oT, oU] dDM_1249 rfl rfl rfl ?_
          refine K.aload dDM_1252 rfl rfl ?_
          refine K.iload dDM_1254 rfl ?_
          refine K.iconst (1 : Int32) dDM_1256 rfl ?_
          refine K.isub dDM_1257 ?_
          show Wk E h102 4 13 1258 #[oA a, oA b, oA q, oI (0 : Int32), oI (Int32.ofNat s), oI (2 : Int32), oA dv, oA rm, oI (Int32.ofNat 4), oI (3 : Int32), oA qa, oI (ga 0), oJ D, oT, oI (ga 1), oI (qh + (-1)), oI qr, oI sk, oI (g 2), oI (g 2 + (-2147483648 : Int32)), oI (g 3), oI z116, oU, oJ x23, oT, oJ x25, oT, oU] [.int (Int32.ofNat 2), .ref qa]
          refine K.iload dDM_1258 rfl ?_
          refine K.iastore dDM_1260 I114 (by decide) (by decide) gqa (fun h119 W120 A121 => ?_)
          have K122 := K105.wr W120 (Or.inr sqa)
          have E123 := E106.wr W120
          have F124 := F107.other W120 (Or.inl n3)
          have F125 := F108.other W120 (Or.inl n3)
          have I126 := I109.other W120 n5
          have I127 := A115.other W120 (Ne.symm n4)
          have E128 := E110.wr W120
          have F129 := F111.other W120 (Or.inl n7)
          have F130 := F112.other W120 (Or.inl n7)
          have F131 := F113.other W120 (Or.inl n7)
          have A132 := A121.congr (own_upd gq (c := 2) (by decide) (qh + (-1)) _)
          refine K.iloadN dDM_1261 rfl ?_
          refine K.if_eq dDM_1262 (fun _ => ?_) (fun u => absurd rfl u)
          refine K.aloadN dDM_1282 rfl rfl ?_
          refine K.callV (a := q) [] [] 0 4 13 dDM_1283 (wd189 hw) (wd190 hw) (wd192 hw) (wd191 hw) (wd152 hw) (wd193 hw) (by decide) (rmNM l Z a0 hw q qa 3 (upd gq 2 (qh + (-1))) h119 n0 E128 F129 F130 F131 A132 geq (Ne.symm n7) (by decide) (by decide) (hor.imp (fun u => u) fun u => ⟨u, by decide⟩)) E128 rfl (lenOf pd_5 rfl) rfl (Nat.le_of_eq rfl) (by decide) (by decide) rfl rfl (by decide) (by decide) (goU fun h133 q134 => ?_)
          obtain ⟨K135, i136, hi137, hi138, F139, F140, F141⟩ := q134
          have K142 := K122.trans K135 (allS (Or.inl (mg 0 rfl)) all0)
          have E143 := E123.keep K135
          have F144 := F124.keep K135 (ninS n8 nin0)
          have F145 := F125.keep K135 (ninS n8 nin0)
          have I146 := I126.keep K135 (ninS n9 nin0)
          have I147 := I127.keep K135 (ninS n10 nin0)
          have E148 := E128.keep K135
          have I149 := A132.keep K135 (ninS (Ne.symm n7) nin0)
          refine K.iloadN dDM_1286 rfl ?_
          refine K.if_eq dDM_1287 (fun _ => ?_) (fun u => absurd rfl u)
          refine K.aconst_null dDM_1295 ?_
          exact K.areturn dDM_1296 rfl rfl rfl (by decide) (by decide) ⟨rfl, K142, qa, i136, 3, _, sqa, gqa, hi137, hi138, by decide, ⟨F139, F140, F141⟩, I149⟩
        · refine K.aload dDM_1252 rfl rfl ?_
          refine K.iload dDM_1254 rfl ?_
          refine K.iconst (1 : Int32) dDM_1256 rfl ?_
          refine K.isub dDM_1257 ?_
          show Wk E h102 4 13 1258 #[oA a, oA b, oA q, oI (0 : Int32), oI (Int32.ofNat s), oI (2 : Int32), oA dv, oA rm, oI (Int32.ofNat 4), oI (3 : Int32), oA qa, oI (ga 0), oJ D, oT, oI (ga 1), oI qh, oI qr, oI sk, oI (g 2), oI (g 2 + (-2147483648 : Int32)), oI (g 3), oI z116, oU, oJ x23, oT, oJ x25, oT, oU] [.int (Int32.ofNat 2), .ref qa]
          refine K.iload dDM_1258 rfl ?_
          refine K.iastore dDM_1260 I114 (by decide) (by decide) gqa (fun h150 W151 A152 => ?_)
          have K153 := K105.wr W151 (Or.inr sqa)
          have E154 := E106.wr W151
          have F155 := F107.other W151 (Or.inl n3)
          have F156 := F108.other W151 (Or.inl n3)
          have I157 := I109.other W151 n5
          have I158 := A115.other W151 (Ne.symm n4)
          have E159 := E110.wr W151
          have F160 := F111.other W151 (Or.inl n7)
          have F161 := F112.other W151 (Or.inl n7)
          have F162 := F113.other W151 (Or.inl n7)
          have A163 := A152.congr (own_upd gq (c := 2) (by decide) qh _)
          refine K.iloadN dDM_1261 rfl ?_
          refine K.if_eq dDM_1262 (fun _ => ?_) (fun u => absurd rfl u)
          refine K.aloadN dDM_1282 rfl rfl ?_
          refine K.callV (a := q) [] [] 0 4 13 dDM_1283 (wd189 hw) (wd190 hw) (wd192 hw) (wd191 hw) (wd152 hw) (wd193 hw) (by decide) (rmNM l Z a0 hw q qa 3 (upd gq 2 qh) h150 n0 E159 F160 F161 F162 A163 geq (Ne.symm n7) (by decide) (by decide) (hor.imp (fun u => u) fun u => ⟨u, by decide⟩)) E159 rfl (lenOf pd_5 rfl) rfl (Nat.le_of_eq rfl) (by decide) (by decide) rfl rfl (by decide) (by decide) (goU fun h164 q165 => ?_)
          obtain ⟨K166, i167, hi168, hi169, F170, F171, F172⟩ := q165
          have K173 := K153.trans K166 (allS (Or.inl (mg 0 rfl)) all0)
          have E174 := E154.keep K166
          have F175 := F155.keep K166 (ninS n8 nin0)
          have F176 := F156.keep K166 (ninS n8 nin0)
          have I177 := I157.keep K166 (ninS n9 nin0)
          have I178 := I158.keep K166 (ninS n10 nin0)
          have E179 := E159.keep K166
          have I180 := A163.keep K166 (ninS (Ne.symm n7) nin0)
          refine K.iloadN dDM_1286 rfl ?_
          refine K.if_eq dDM_1287 (fun _ => ?_) (fun u => absurd rfl u)
          refine K.aconst_null dDM_1295 ?_
          exact K.areturn dDM_1296 rfl rfl rfl (by decide) (by decide) ⟨rfl, K173, qa, i167, 3, _, sqa, gqa, hi168, hi169, by decide, ⟨F170, F171, F172⟩, I180⟩
      have J181 : ∀ (qh qr sk : Int32) (x21 x23 x25 : Int64), Wk E h1 4 13 1052 #[oA a, oA b, oA q, oI (0 : Int32), oI (Int32.ofNat s), oI (2 : Int32), oA dv, oA rm, oI (Int32.ofNat 4), oI (3 : Int32), oA qa, oI (ga 0), oJ D, oT, oI (ga 1), oI qh, oI qr, oI sk, oI (g 2), oI (g 2 + (-2147483648 : Int32)), oI (g 3), oJ x21, oT, oJ x23, oT, oJ x25, oT, oU] [] := by
        intro qh qr sk x21 x23 x25
        refine K.aloadN dDM_1052 rfl rfl ?_
        refine K.lload dDM_1053 rfl ?_
        refine K.lload dDM_1055 rfl ?_
        refine K.callP (a := a) [.long x25, .long x23] [] 0 4 13 dDM_1057 (wd265 hw) (wd267 hw) (wd268 hw) (wd266 hw) (wd152 hw) (wd269 hw) (by decide) (rmUC l Z a0 hw a x25 x23 h1 n0) ea rfl (lenOf pd_20 rfl) rfl (Nat.le_of_eq rfl) (by decide) (by decide) rfl rfl (by decide) (by decide) (goP ?_)
        refine K.if_eq dDM_1060 (fun hc182 => ?_) (fun hc182 => ?_)
        · exact J101 _ _ _ _ _ _
        · refine K.iinc (qh + (-1)) #[oA a, oA b, oA q, oI (0 : Int32), oI (Int32.ofNat s), oI (2 : Int32), oA dv, oA rm, oI (Int32.ofNat 4), oI (3 : Int32), oA qa, oI (ga 0), oJ D, oT, oI (ga 1), oI (qh + (-1)), oI qr, oI sk, oI (g 2), oI (g 2 + (-2147483648 : Int32)), oI (g 3), oJ x21, oT, oJ x23, oT, oJ x25, oT, oU] dDM_1063 rfl rfl rfl ?_
          refine K.iload dDM_1066 rfl ?_
          refine K.i2l dDM_1068 ?_
          refine K.ldc2J dDM_1069 (wd187 hw) ?_
          refine K.land dDM_1072 ?_
          refine K.lload dDM_1073 rfl ?_
          refine K.ladd dDM_1075 ?_
          refine K.l2i dDM_1076 ?_
          refine K.istore #[oA a, oA b, oA q, oI (0 : Int32), oI (Int32.ofNat s), oI (2 : Int32), oA dv, oA rm, oI (Int32.ofNat 4), oI (3 : Int32), oA qa, oI (ga 0), oJ D, oT, oI (ga 1), oI (qh + (-1)), oI (((qr.toInt64 &&& (4294967295 : Int64)) + D).toInt32), oI sk, oI (g 2), oI (g 2 + (-2147483648 : Int32)), oI (g 3), oJ x21, oT, oJ x23, oT, oJ x25, oT, oU] dDM_1077 rfl ?_
          refine K.iload dDM_1079 rfl ?_
          refine K.i2l dDM_1081 ?_
          refine K.ldc2J dDM_1082 (wd187 hw) ?_
          refine K.land dDM_1085 ?_
          refine K.lload dDM_1086 rfl ?_
          refine K.lc_lt dDM_1088 dDM_1089 (fun hc183 => ?_) (fun hc183 => ?_)
          · exact J101 _ _ _ _ _ _
          · refine K.lload dDM_1092 rfl ?_
            refine K.iload dDM_1094 rfl ?_
            refine K.i2l dDM_1096 ?_
            refine K.ldc2J dDM_1097 (wd187 hw) ?_
            refine K.land dDM_1100 ?_
            refine K.lsub dDM_1101 ?_
            refine K.lstore #[oA a, oA b, oA q, oI (0 : Int32), oI (Int32.ofNat s), oI (2 : Int32), oA dv, oA rm, oI (Int32.ofNat 4), oI (3 : Int32), oA qa, oI (ga 0), oJ D, oT, oI (ga 1), oI (qh + (-1)), oI (((qr.toInt64 &&& (4294967295 : Int64)) + D).toInt32), oI sk, oI (g 2), oI (g 2 + (-2147483648 : Int32)), oI (g 3), oJ x21, oT, oJ x23, oT, oJ (x25 - (((ga 1).toInt64) &&& (4294967295 : Int64))), oT, oU] dDM_1102 rfl ?_
            refine K.iload dDM_1104 rfl ?_
            refine K.i2l dDM_1106 ?_
            refine K.ldc2J dDM_1107 (wd187 hw) ?_
            refine K.land dDM_1110 ?_
            refine K.bipush (32 : Int32) dDM_1111 rfl ?_
            refine K.lshl dDM_1113 ?_
            refine K.lload dDM_1114 rfl ?_
            refine K.lor dDM_1116 ?_
            refine K.lstore #[oA a, oA b, oA q, oI (0 : Int32), oI (Int32.ofNat s), oI (2 : Int32), oA dv, oA rm, oI (Int32.ofNat 4), oI (3 : Int32), oA qa, oI (ga 0), oJ D, oT, oI (ga 1), oI (qh + (-1)), oI (((qr.toInt64 &&& (4294967295 : Int64)) + D).toInt32), oI sk, oI (g 2), oI (g 2 + (-2147483648 : Int32)), oI (g 3), oJ x21, oT, oJ (((((((qr.toInt64 &&& (4294967295 : Int64)) + D).toInt32).toInt64) &&& (4294967295 : Int64)) <<< ((32 : Int32) &&& 63).toInt64) ||| x21), oT, oJ (x25 - (((ga 1).toInt64) &&& (4294967295 : Int64))), oT, oU] dDM_1117 rfl ?_
            refine K.aloadN dDM_1119 rfl rfl ?_
            refine K.lload dDM_1120 rfl ?_
            refine K.lload dDM_1122 rfl ?_
            refine K.callP (a := a) [.long (x25 - (((ga 1).toInt64) &&& (4294967295 : Int64))), .long (((((((qr.toInt64 &&& (4294967295 : Int64)) + D).toInt32).toInt64) &&& (4294967295 : Int64)) <<< ((32 : Int32) &&& 63).toInt64) ||| x21)] [] 0 4 13 dDM_1124 (wd265 hw) (wd267 hw) (wd268 hw) (wd266 hw) (wd152 hw) (wd269 hw) (by decide) (rmUC l Z a0 hw a (x25 - (((ga 1).toInt64) &&& (4294967295 : Int64))) (((((((qr.toInt64 &&& (4294967295 : Int64)) + D).toInt32).toInt64) &&& (4294967295 : Int64)) <<< ((32 : Int32) &&& 63).toInt64) ||| x21) h1 n0) ea rfl (lenOf pd_20 rfl) rfl (Nat.le_of_eq rfl) (by decide) (by decide) rfl rfl (by decide) (by decide) (goP ?_)
            refine K.if_eq dDM_1127 (fun hc184 => ?_) (fun hc184 => ?_)
            · exact J101 _ _ _ _ _ _
            · refine K.iinc ((qh + (-1)) + (-1)) #[oA a, oA b, oA q, oI (0 : Int32), oI (Int32.ofNat s), oI (2 : Int32), oA dv, oA rm, oI (Int32.ofNat 4), oI (3 : Int32), oA qa, oI (ga 0), oJ D, oT, oI (ga 1), oI ((qh + (-1)) + (-1)), oI (((qr.toInt64 &&& (4294967295 : Int64)) + D).toInt32), oI sk, oI (g 2), oI (g 2 + (-2147483648 : Int32)), oI (g 3), oJ x21, oT, oJ (((((((qr.toInt64 &&& (4294967295 : Int64)) + D).toInt32).toInt64) &&& (4294967295 : Int64)) <<< ((32 : Int32) &&& 63).toInt64) ||| x21), oT, oJ (x25 - (((ga 1).toInt64) &&& (4294967295 : Int64))), oT, oU] dDM_1130 rfl rfl rfl ?_
              exact J101 _ _ _ _ _ _
      refine K.ic_ne dDM_882 (fun hc185 => ?_) (fun hc185 => ?_)
      · refine K.iconst (-1 : Int32) dDM_885 rfl ?_
        refine K.istore #[oA a, oA b, oA q, oI (0 : Int32), oI (Int32.ofNat s), oI (2 : Int32), oA dv, oA rm, oI (Int32.ofNat 4), oI (3 : Int32), oA qa, oI (ga 0), oJ D, oT, oI (ga 1), oI (-1 : Int32), oI (0 : Int32), oI (0 : Int32), oI (g 2), oI ((g 2) + (-2147483648 : Int32)), oI (g 3), oI z21, s22, s23, s24, s25, s26, s27] dDM_886 rfl ?_
        refine K.iload dDM_888 rfl ?_
        refine K.iload dDM_890 rfl ?_
        refine K.iadd dDM_892 ?_
        refine K.istore #[oA a, oA b, oA q, oI (0 : Int32), oI (Int32.ofNat s), oI (2 : Int32), oA dv, oA rm, oI (Int32.ofNat 4), oI (3 : Int32), oA qa, oI (ga 0), oJ D, oT, oI (ga 1), oI (-1 : Int32), oI ((g 2) + (g 3)), oI (0 : Int32), oI (g 2), oI ((g 2) + (-2147483648 : Int32)), oI (g 3), oI z21, s22, s23, s24, s25, s26, s27] dDM_893 rfl ?_
        refine K.iload dDM_895 rfl ?_
        refine K.ldcI dDM_897 (wd261 hw) ?_
        refine K.iadd dDM_899 ?_
        refine K.iload dDM_900 rfl ?_
        refine cut (P := ∀ z186 : Int32, z186 = (if (((g 2) + (g 3)) + (-2147483648 : Int32)) < ((g 2) + (-2147483648 : Int32)) then 1 else 0) → Wk E h1 4 13 910 #[oA a, oA b, oA q, oI (0 : Int32), oI (Int32.ofNat s), oI (2 : Int32), oA dv, oA rm, oI (Int32.ofNat 4), oI (3 : Int32), oA qa, oI (ga 0), oJ D, oT, oI (ga 1), oI (-1 : Int32), oI ((g 2) + (g 3)), oI (0 : Int32), oI (g 2), oI ((g 2) + (-2147483648 : Int32)), oI (g 3), oI z21, s22, s23, s24, s25, s26, s27] [.int z186]) (fun J187 => ?_) ?_
        · refine K.ic_ge dDM_902 (fun hc188 => ?_) (fun hc188 => ?_)
          · refine K.iconst (1 : Int32) dDM_905 rfl ?_
            refine K.goto dDM_906 ?_
            exact J187 _ (if_pos hc188).symm
          · refine K.iconst (0 : Int32) dDM_909 rfl ?_
            exact J187 _ (if_neg hc188).symm
        intro z186 hz186
        refine K.istore #[oA a, oA b, oA q, oI (0 : Int32), oI (Int32.ofNat s), oI (2 : Int32), oA dv, oA rm, oI (Int32.ofNat 4), oI (3 : Int32), oA qa, oI (ga 0), oJ D, oT, oI (ga 1), oI (-1 : Int32), oI ((g 2) + (g 3)), oI z186, oI (g 2), oI ((g 2) + (-2147483648 : Int32)), oI (g 3), oI z21, s22, s23, s24, s25, s26, s27] dDM_910 rfl ?_
        refine K.goto dDM_912 ?_
        refine K.iload dDM_987 rfl ?_
        refine K.if_eq dDM_989 (fun hc189 => ?_) (fun hc189 => ?_)
        · refine K.iloadN dDM_1261 rfl ?_
          refine K.if_eq dDM_1262 (fun _ => ?_) (fun u => absurd rfl u)
          refine K.aloadN dDM_1282 rfl rfl ?_
          refine K.callV (a := q) [] [] 0 4 13 dDM_1283 (wd189 hw) (wd190 hw) (wd192 hw) (wd191 hw) (wd152 hw) (wd193 hw) (by decide) (rmNM l Z a0 hw q qa 3 gq h1 n0 xq fq1 fq2 fq3 aq geq (Ne.symm n7) (by decide) (by decide) (hor.imp id fun u => ⟨u, by decide⟩)) xq rfl (lenOf pd_5 rfl) rfl (Nat.le_of_eq rfl) (by decide) (by decide) rfl rfl (by decide) (by decide) (goU fun h190 q191 => ?_)
          obtain ⟨K192, i193, hi194, hi195, F196, F197, F198⟩ := q191
          have K199 := kk.trans K192 (allS (Or.inl (mg 0 rfl)) all0)
          have E200 := ea.keep K192
          have F201 := fr1.keep K192 (ninS n8 nin0)
          have F202 := fr2.keep K192 (ninS n8 nin0)
          have I203 := av.keep K192 (ninS n9 nin0)
          have I204 := ar.keep K192 (ninS n10 nin0)
          have E205 := xq.keep K192
          have I206 := aq.keep K192 (ninS (Ne.symm n7) nin0)
          refine K.iloadN dDM_1286 rfl ?_
          refine K.if_eq dDM_1287 (fun _ => ?_) (fun u => absurd rfl u)
          refine K.aconst_null dDM_1295 ?_
          exact K.areturn dDM_1296 rfl rfl rfl (by decide) (by decide) ⟨rfl, K199, qa, i193, 3, _, sqa, gqa, hi194, hi195, by decide, ⟨F196, F197, F198⟩, I206⟩
        · refine K.iload dDM_992 rfl ?_
          refine K.if_ne dDM_994 (fun hc207 => ?_) (fun hc207 => ?_)
          · refine K.aload dDM_997 rfl rfl ?_
            refine K.getF dDM_999 (wd160 hw) fr2 ?_
            refine K.iload dDM_1002 rfl ?_
            refine K.iconst (1 : Int32) dDM_1004 rfl ?_
            refine K.iadd dDM_1005 ?_
            refine K.aload dDM_1006 rfl rfl ?_
            refine K.getF dDM_1008 (wd158 hw) fr1 ?_
            refine K.iadd dDM_1011 ?_
            show Wk E h1 4 13 1012 #[oA a, oA b, oA q, oI (0 : Int32), oI (Int32.ofNat s), oI (2 : Int32), oA dv, oA rm, oI (Int32.ofNat 4), oI (3 : Int32), oA qa, oI (ga 0), oJ D, oT, oI (ga 1), oI (-1 : Int32), oI ((g 2) + (g 3)), oI z186, oI (g 2), oI ((g 2) + (-2147483648 : Int32)), oI (g 3), oI z21, s22, s23, s24, s25, s26, s27] [.int (Int32.ofNat 4), .ref ra]
            refine K.iaload (v := .int (g 4)) dDM_1012 ar (by decide) (by decide) rfl ?_
            refine K.i2l dDM_1013 ?_
            refine K.ldc2J dDM_1014 (wd187 hw) ?_
            refine K.land dDM_1017 ?_
            refine K.lstore #[oA a, oA b, oA q, oI (0 : Int32), oI (Int32.ofNat s), oI (2 : Int32), oA dv, oA rm, oI (Int32.ofNat 4), oI (3 : Int32), oA qa, oI (ga 0), oJ D, oT, oI (ga 1), oI (-1 : Int32), oI ((g 2) + (g 3)), oI z186, oI (g 2), oI ((g 2) + (-2147483648 : Int32)), oI (g 3), oJ (((g 4).toInt64) &&& (4294967295 : Int64)), oT, oU, s24, s25, s26, s27] dDM_1018 (by rcases p22 with ⟨z_, rfl, rfl⟩ | ⟨rfl, rfl | ⟨z_, rfl⟩⟩ <;> rfl) ?_
            refine K.iload dDM_1020 rfl ?_
            refine K.i2l dDM_1022 ?_
            refine K.ldc2J dDM_1023 (wd187 hw) ?_
            refine K.land dDM_1026 ?_
            refine K.bipush (32 : Int32) dDM_1027 rfl ?_
            refine K.lshl dDM_1029 ?_
            refine K.lload dDM_1030 rfl ?_
            refine K.lor dDM_1032 ?_
            refine K.lstore #[oA a, oA b, oA q, oI (0 : Int32), oI (Int32.ofNat s), oI (2 : Int32), oA dv, oA rm, oI (Int32.ofNat 4), oI (3 : Int32), oA qa, oI (ga 0), oJ D, oT, oI (ga 1), oI (-1 : Int32), oI ((g 2) + (g 3)), oI z186, oI (g 2), oI ((g 2) + (-2147483648 : Int32)), oI (g 3), oJ (((g 4).toInt64) &&& (4294967295 : Int64)), oT, oJ ((((((g 2) + (g 3)).toInt64) &&& (4294967295 : Int64)) <<< ((32 : Int32) &&& 63).toInt64) ||| (((g 4).toInt64) &&& (4294967295 : Int64))), oT, oU, s26, s27] dDM_1033 (by rcases p24 with ⟨z_, rfl, rfl⟩ | ⟨rfl, rfl | ⟨z_, rfl⟩⟩ <;> rfl) ?_
            refine K.iload dDM_1035 rfl ?_
            refine K.i2l dDM_1037 ?_
            refine K.ldc2J dDM_1038 (wd187 hw) ?_
            refine K.land dDM_1041 ?_
            refine K.iload dDM_1042 rfl ?_
            refine K.i2l dDM_1044 ?_
            refine K.ldc2J dDM_1045 (wd187 hw) ?_
            refine K.land dDM_1048 ?_
            refine K.lmul dDM_1049 ?_
            refine K.lstore #[oA a, oA b, oA q, oI (0 : Int32), oI (Int32.ofNat s), oI (2 : Int32), oA dv, oA rm, oI (Int32.ofNat 4), oI (3 : Int32), oA qa, oI (ga 0), oJ D, oT, oI (ga 1), oI (-1 : Int32), oI ((g 2) + (g 3)), oI z186, oI (g 2), oI ((g 2) + (-2147483648 : Int32)), oI (g 3), oJ (((g 4).toInt64) &&& (4294967295 : Int64)), oT, oJ ((((((g 2) + (g 3)).toInt64) &&& (4294967295 : Int64)) <<< ((32 : Int32) &&& 63).toInt64) ||| (((g 4).toInt64) &&& (4294967295 : Int64))), oT, oJ ((((ga 1).toInt64) &&& (4294967295 : Int64)) * (((-1 : Int32).toInt64) &&& (4294967295 : Int64))), oT, oU] dDM_1050 (by rcases p26 with ⟨z_, rfl, rfl⟩ | ⟨rfl, rfl | ⟨z_, rfl⟩⟩ <;> rfl) ?_
            exact J181 _ _ _ _ _ _
          · refine K.aload dDM_1133 rfl rfl ?_
            refine K.getF dDM_1135 (wd160 hw) fr2 ?_
            refine K.iload dDM_1138 rfl ?_
            refine K.iconst (1 : Int32) dDM_1140 rfl ?_
            refine K.isub dDM_1141 ?_
            refine K.aload dDM_1142 rfl rfl ?_
            refine K.getF dDM_1144 (wd158 hw) fr1 ?_
            refine K.iadd dDM_1147 ?_
            show Wk E h1 4 13 1148 #[oA a, oA b, oA q, oI (0 : Int32), oI (Int32.ofNat s), oI (2 : Int32), oA dv, oA rm, oI (Int32.ofNat 4), oI (3 : Int32), oA qa, oI (ga 0), oJ D, oT, oI (ga 1), oI (-1 : Int32), oI ((g 2) + (g 3)), oI z186, oI (g 2), oI ((g 2) + (-2147483648 : Int32)), oI (g 3), oI z21, s22, s23, s24, s25, s26, s27] [.int (Int32.ofNat 2), .ref ra]
            refine K.iconst (0 : Int32) dDM_1148 rfl ?_
            refine K.iastore dDM_1149 ar (by decide) (by decide) gra (fun h208 W209 A210 => ?_)
            have K211 := kk.wr W209 (Or.inr sra)
            have E212 := ea.wr W209
            have F213 := fr1.other W209 (Or.inl n2)
            have F214 := fr2.other W209 (Or.inl n2)
            have I215 := av.other W209 (Ne.symm n1)
            have E216 := xq.wr W209
            have F217 := fq1.other W209 (Or.inl n6)
            have F218 := fq2.other W209 (Or.inl n6)
            have F219 := fq3.other W209 (Or.inl n6)
            have I220 := aq.other W209 n4
            have A221 := A210.congr (own_upd g (c := 2) (by decide) 0 _)
            refine K.iloadN dDM_1150 rfl ?_
            refine K.if_eq dDM_1151 (fun _ => ?_) (fun u => absurd rfl u)
            refine K.aloadN dDM_1184 rfl rfl ?_
            refine K.aload dDM_1185 rfl rfl ?_
            refine K.getF dDM_1187 (wd160 hw) F214 ?_
            refine K.aload dDM_1190 rfl rfl ?_
            refine K.iload dDM_1192 rfl ?_
            refine K.iload dDM_1194 rfl ?_
            refine K.iload dDM_1196 rfl ?_
            refine K.iconst (1 : Int32) dDM_1198 rfl ?_
            refine K.isub dDM_1199 ?_
            refine K.aload dDM_1200 rfl rfl ?_
            refine K.getF dDM_1202 (wd158 hw) F213 ?_
            refine K.iadd dDM_1205 ?_
            show Wk E h208 4 13 1206 #[oA a, oA b, oA q, oI (0 : Int32), oI (Int32.ofNat s), oI (2 : Int32), oA dv, oA rm, oI (Int32.ofNat 4), oI (3 : Int32), oA qa, oI (ga 0), oJ D, oT, oI (ga 1), oI (-1 : Int32), oI ((g 2) + (g 3)), oI z186, oI (g 2), oI ((g 2) + (-2147483648 : Int32)), oI (g 3), oI z21, s22, s23, s24, s25, s26, s27] [.int 2, .int 2, .int (-1), .ref dv, .ref ra, .ref a]
            refine K.callP (a := a) [.ref ra, .ref dv, .int (-1), .int 2, .int 2] [] 0 4 13 dDM_1206 (wd276 hw) (wd278 hw) (wd279 hw) (wd277 hw) (wd152 hw) (wd280 hw) (by decide) (rmMW l Z a0 hw a ra dv (upd g 2 0) ga (-1 : Int32) h208 n0 A221 I215) E212 rfl (lenOf pd_19 rfl) rfl (Nat.le_of_eq rfl) (by decide) (by decide) rfl rfl (by decide) (by decide) (goIs fun z222 q223 => ?_)
            refine K.istore #[oA a, oA b, oA q, oI (0 : Int32), oI (Int32.ofNat s), oI (2 : Int32), oA dv, oA rm, oI (Int32.ofNat 4), oI (3 : Int32), oA qa, oI (ga 0), oJ D, oT, oI (ga 1), oI (-1 : Int32), oI ((g 2) + (g 3)), oI z186, oI (g 2), oI ((g 2) + (-2147483648 : Int32)), oI (g 3), oI z222, s22, s23, s24, s25, s26, s27] dDM_1209 rfl ?_
            refine K.iload dDM_1211 rfl ?_
            refine K.ldcI dDM_1213 (wd261 hw) ?_
            refine K.iadd dDM_1215 ?_
            refine K.iload dDM_1216 rfl ?_
            refine K.ic_le dDM_1218 (fun hc224 => ?_) (fun hc224 => ?_)
            · refine K.iloadN dDM_1221 rfl ?_
              refine K.if_eq dDM_1222 (fun _ => ?_) (fun u => absurd rfl u)
              refine K.iinc ((-1 : Int32) + (-1)) #[oA a, oA b, oA q, oI (0 : Int32), oI (Int32.ofNat s), oI (2 : Int32), oA dv, oA rm, oI (Int32.ofNat 4), oI (3 : Int32), oA qa, oI (ga 0), oJ D, oT, oI (ga 1), oI ((-1 : Int32) + (-1)), oI ((g 2) + (g 3)), oI z186, oI (g 2), oI ((g 2) + (-2147483648 : Int32)), oI (g 3), oI z222, s22, s23, s24, s25, s26, s27] dDM_1249 rfl rfl rfl ?_
              refine K.aload dDM_1252 rfl rfl ?_
              refine K.iload dDM_1254 rfl ?_
              refine K.iconst (1 : Int32) dDM_1256 rfl ?_
              refine K.isub dDM_1257 ?_
              show Wk E h208 4 13 1258 #[oA a, oA b, oA q, oI (0 : Int32), oI (Int32.ofNat s), oI (2 : Int32), oA dv, oA rm, oI (Int32.ofNat 4), oI (3 : Int32), oA qa, oI (ga 0), oJ D, oT, oI (ga 1), oI ((-1 : Int32) + (-1)), oI ((g 2) + (g 3)), oI z186, oI (g 2), oI ((g 2) + (-2147483648 : Int32)), oI (g 3), oI z222, s22, s23, s24, s25, s26, s27] [.int (Int32.ofNat 2), .ref qa]
              refine K.iload dDM_1258 rfl ?_
              refine K.iastore dDM_1260 I220 (by decide) (by decide) gqa (fun h225 W226 A227 => ?_)
              have K228 := K211.wr W226 (Or.inr sqa)
              have E229 := E212.wr W226
              have F230 := F213.other W226 (Or.inl n3)
              have F231 := F214.other W226 (Or.inl n3)
              have I232 := I215.other W226 n5
              have I233 := A221.other W226 (Ne.symm n4)
              have E234 := E216.wr W226
              have F235 := F217.other W226 (Or.inl n7)
              have F236 := F218.other W226 (Or.inl n7)
              have F237 := F219.other W226 (Or.inl n7)
              have A238 := A227.congr (own_upd gq (c := 2) (by decide) ((-1 : Int32) + (-1)) _)
              refine K.iloadN dDM_1261 rfl ?_
              refine K.if_eq dDM_1262 (fun _ => ?_) (fun u => absurd rfl u)
              refine K.aloadN dDM_1282 rfl rfl ?_
              refine K.callV (a := q) [] [] 0 4 13 dDM_1283 (wd189 hw) (wd190 hw) (wd192 hw) (wd191 hw) (wd152 hw) (wd193 hw) (by decide) (rmNM l Z a0 hw q qa 3 (upd gq 2 ((-1 : Int32) + (-1))) h225 n0 E234 F235 F236 F237 A238 geq (Ne.symm n7) (by decide) (by decide) (hor.imp (fun u => u) fun u => ⟨u, by decide⟩)) E234 rfl (lenOf pd_5 rfl) rfl (Nat.le_of_eq rfl) (by decide) (by decide) rfl rfl (by decide) (by decide) (goU fun h239 q240 => ?_)
              obtain ⟨K241, i242, hi243, hi244, F245, F246, F247⟩ := q240
              have K248 := K228.trans K241 (allS (Or.inl (mg 0 rfl)) all0)
              have E249 := E229.keep K241
              have F250 := F230.keep K241 (ninS n8 nin0)
              have F251 := F231.keep K241 (ninS n8 nin0)
              have I252 := I232.keep K241 (ninS n9 nin0)
              have I253 := I233.keep K241 (ninS n10 nin0)
              have E254 := E234.keep K241
              have I255 := A238.keep K241 (ninS (Ne.symm n7) nin0)
              refine K.iloadN dDM_1286 rfl ?_
              refine K.if_eq dDM_1287 (fun _ => ?_) (fun u => absurd rfl u)
              refine K.aconst_null dDM_1295 ?_
              exact K.areturn dDM_1296 rfl rfl rfl (by decide) (by decide) ⟨rfl, K248, qa, i242, 3, _, sqa, gqa, hi243, hi244, by decide, ⟨F245, F246, F247⟩, I255⟩
            · refine K.aload dDM_1252 rfl rfl ?_
              refine K.iload dDM_1254 rfl ?_
              refine K.iconst (1 : Int32) dDM_1256 rfl ?_
              refine K.isub dDM_1257 ?_
              show Wk E h208 4 13 1258 #[oA a, oA b, oA q, oI (0 : Int32), oI (Int32.ofNat s), oI (2 : Int32), oA dv, oA rm, oI (Int32.ofNat 4), oI (3 : Int32), oA qa, oI (ga 0), oJ D, oT, oI (ga 1), oI (-1 : Int32), oI ((g 2) + (g 3)), oI z186, oI (g 2), oI ((g 2) + (-2147483648 : Int32)), oI (g 3), oI z222, s22, s23, s24, s25, s26, s27] [.int (Int32.ofNat 2), .ref qa]
              refine K.iload dDM_1258 rfl ?_
              refine K.iastore dDM_1260 I220 (by decide) (by decide) gqa (fun h256 W257 A258 => ?_)
              have K259 := K211.wr W257 (Or.inr sqa)
              have E260 := E212.wr W257
              have F261 := F213.other W257 (Or.inl n3)
              have F262 := F214.other W257 (Or.inl n3)
              have I263 := I215.other W257 n5
              have I264 := A221.other W257 (Ne.symm n4)
              have E265 := E216.wr W257
              have F266 := F217.other W257 (Or.inl n7)
              have F267 := F218.other W257 (Or.inl n7)
              have F268 := F219.other W257 (Or.inl n7)
              have A269 := A258.congr (own_upd gq (c := 2) (by decide) (-1 : Int32) _)
              refine K.iloadN dDM_1261 rfl ?_
              refine K.if_eq dDM_1262 (fun _ => ?_) (fun u => absurd rfl u)
              refine K.aloadN dDM_1282 rfl rfl ?_
              refine K.callV (a := q) [] [] 0 4 13 dDM_1283 (wd189 hw) (wd190 hw) (wd192 hw) (wd191 hw) (wd152 hw) (wd193 hw) (by decide) (rmNM l Z a0 hw q qa 3 (upd gq 2 (-1 : Int32)) h256 n0 E265 F266 F267 F268 A269 geq (Ne.symm n7) (by decide) (by decide) (hor.imp (fun u => u) fun u => ⟨u, by decide⟩)) E265 rfl (lenOf pd_5 rfl) rfl (Nat.le_of_eq rfl) (by decide) (by decide) rfl rfl (by decide) (by decide) (goU fun h270 q271 => ?_)
              obtain ⟨K272, i273, hi274, hi275, F276, F277, F278⟩ := q271
              have K279 := K259.trans K272 (allS (Or.inl (mg 0 rfl)) all0)
              have E280 := E260.keep K272
              have F281 := F261.keep K272 (ninS n8 nin0)
              have F282 := F262.keep K272 (ninS n8 nin0)
              have I283 := I263.keep K272 (ninS n9 nin0)
              have I284 := I264.keep K272 (ninS n10 nin0)
              have E285 := E265.keep K272
              have I286 := A269.keep K272 (ninS (Ne.symm n7) nin0)
              refine K.iloadN dDM_1286 rfl ?_
              refine K.if_eq dDM_1287 (fun _ => ?_) (fun u => absurd rfl u)
              refine K.aconst_null dDM_1295 ?_
              exact K.areturn dDM_1296 rfl rfl rfl (by decide) (by decide) ⟨rfl, K279, qa, i273, 3, _, sqa, gqa, hi274, hi275, by decide, ⟨F276, F277, F278⟩, I286⟩
      · have hlt := own_nlt hinv hc185
        refine K.iload dDM_915 rfl ?_
        refine K.i2l dDM_917 ?_
        refine K.bipush (32 : Int32) dDM_918 rfl ?_
        refine K.lshl dDM_920 ?_
        refine K.iload dDM_921 rfl ?_
        refine K.i2l dDM_923 ?_
        refine K.ldc2J dDM_924 (wd187 hw) ?_
        refine K.land dDM_927 ?_
        refine K.lor dDM_928 ?_
        obtain ⟨ck, eck⟩ : ∃ x_ : Int64, x_ = (((g 2).toInt64) <<< ((32 : Int32) &&& 63).toInt64) ||| (((g 3).toInt64) &&& (4294967295 : Int64)) := ⟨_, rfl⟩
        rw [← eck]
        have hck : uw ck = uv (g 2) * 4294967296 + uv (g 3) := by rw [eck]; exact uw_chunk _ _
        refine K.lstore #[oA a, oA b, oA q, oI (0 : Int32), oI (Int32.ofNat s), oI (2 : Int32), oA dv, oA rm, oI (Int32.ofNat 4), oI (3 : Int32), oA qa, oI (ga 0), oJ D, oT, oI (ga 1), oI (0 : Int32), oI (0 : Int32), oI (0 : Int32), oI (g 2), oI ((g 2) + (-2147483648 : Int32)), oI (g 3), oJ ck, oT, oU, s24, s25, s26, s27] dDM_929 (by rcases p22 with ⟨z_, rfl, rfl⟩ | ⟨rfl, rfl | ⟨z_, rfl⟩⟩ <;> rfl) ?_
        refine K.lload dDM_931 rfl ?_
        refine K.lconst (0 : Int64) dDM_933 rfl ?_
        refine K.lc_lt dDM_934 dDM_935 (fun hc287 => ?_) (fun hc287 => ?_)
        · refine K.lload dDM_961 rfl ?_
          refine K.iload dDM_963 rfl ?_
          refine K.callS [.long ck, .int (ga 0)] [] 0 4 13 dDM_965 (wd262 hw) (wd263 hw) (wd152 hw) (wd264 hw) (by decide) (rmDW l Z a0 hw ck (ga 0) h1 n0 hdh (by rw [hck]; exact hlt)) rfl (lenOf pd_18 rfl) rfl (Nat.le_of_eq rfl) (by decide) (by decide) rfl rfl (by decide) (by decide) (goJs fun z288 q289 => ?_)
          refine K.lstore #[oA a, oA b, oA q, oI (0 : Int32), oI (Int32.ofNat s), oI (2 : Int32), oA dv, oA rm, oI (Int32.ofNat 4), oI (3 : Int32), oA qa, oI (ga 0), oJ D, oT, oI (ga 1), oI (0 : Int32), oI (0 : Int32), oI (0 : Int32), oI (g 2), oI ((g 2) + (-2147483648 : Int32)), oI (g 3), oJ ck, oT, oJ z288, oT, oU, s26, s27] dDM_968 (by rcases p24 with ⟨z_, rfl, rfl⟩ | ⟨rfl, rfl | ⟨z_, rfl⟩⟩ <;> rfl) ?_
          refine K.lload dDM_970 rfl ?_
          refine K.ldc2J dDM_972 (wd187 hw) ?_
          refine K.land dDM_975 ?_
          refine K.l2i dDM_976 ?_
          obtain ⟨q_, eq_⟩ : ∃ x_ : Int32, x_ = (z288 &&& (4294967295 : Int64)).toInt32 := ⟨_, rfl⟩
          rw [← eq_]
          refine K.istore #[oA a, oA b, oA q, oI (0 : Int32), oI (Int32.ofNat s), oI (2 : Int32), oA dv, oA rm, oI (Int32.ofNat 4), oI (3 : Int32), oA qa, oI (ga 0), oJ D, oT, oI (ga 1), oI q_, oI (0 : Int32), oI (0 : Int32), oI (g 2), oI ((g 2) + (-2147483648 : Int32)), oI (g 3), oJ ck, oT, oJ z288, oT, oU, s26, s27] dDM_977 rfl ?_
          refine K.lload dDM_979 rfl ?_
          refine K.bipush (32 : Int32) dDM_981 rfl ?_
          refine K.lushr dDM_983 ?_
          refine K.l2i dDM_984 ?_
          obtain ⟨r_, er_⟩ : ∃ x_ : Int32, x_ = ((z288.toUInt64 >>> ((32 : Int32) &&& 63).toInt64.toUInt64).toInt64).toInt32 := ⟨_, rfl⟩
          rw [← er_]
          refine K.istore #[oA a, oA b, oA q, oI (0 : Int32), oI (Int32.ofNat s), oI (2 : Int32), oA dv, oA rm, oI (Int32.ofNat 4), oI (3 : Int32), oA qa, oI (ga 0), oJ D, oT, oI (ga 1), oI q_, oI r_, oI (0 : Int32), oI (g 2), oI ((g 2) + (-2147483648 : Int32)), oI (g 3), oJ ck, oT, oJ z288, oT, oU, s26, s27] dDM_985 rfl ?_
          refine K.iload dDM_987 rfl ?_
          refine K.if_eq dDM_989 (fun hc290 => ?_) (fun hc290 => ?_)
          · refine K.iloadN dDM_1261 rfl ?_
            refine K.if_eq dDM_1262 (fun _ => ?_) (fun u => absurd rfl u)
            refine K.aloadN dDM_1282 rfl rfl ?_
            refine K.callV (a := q) [] [] 0 4 13 dDM_1283 (wd189 hw) (wd190 hw) (wd192 hw) (wd191 hw) (wd152 hw) (wd193 hw) (by decide) (rmNM l Z a0 hw q qa 3 gq h1 n0 xq fq1 fq2 fq3 aq geq (Ne.symm n7) (by decide) (by decide) (hor.imp id fun u => ⟨u, by decide⟩)) xq rfl (lenOf pd_5 rfl) rfl (Nat.le_of_eq rfl) (by decide) (by decide) rfl rfl (by decide) (by decide) (goU fun h291 q292 => ?_)
            obtain ⟨K293, i294, hi295, hi296, F297, F298, F299⟩ := q292
            have K300 := kk.trans K293 (allS (Or.inl (mg 0 rfl)) all0)
            have E301 := ea.keep K293
            have F302 := fr1.keep K293 (ninS n8 nin0)
            have F303 := fr2.keep K293 (ninS n8 nin0)
            have I304 := av.keep K293 (ninS n9 nin0)
            have I305 := ar.keep K293 (ninS n10 nin0)
            have E306 := xq.keep K293
            have I307 := aq.keep K293 (ninS (Ne.symm n7) nin0)
            refine K.iloadN dDM_1286 rfl ?_
            refine K.if_eq dDM_1287 (fun _ => ?_) (fun u => absurd rfl u)
            refine K.aconst_null dDM_1295 ?_
            exact K.areturn dDM_1296 rfl rfl rfl (by decide) (by decide) ⟨rfl, K300, qa, i294, 3, _, sqa, gqa, hi295, hi296, by decide, ⟨F297, F298, F299⟩, I307⟩
          · refine K.iload dDM_992 rfl ?_
            refine K.if_ne dDM_994 (fun _ => ?_) (fun u => absurd rfl u)
            refine K.aload dDM_997 rfl rfl ?_
            refine K.getF dDM_999 (wd160 hw) fr2 ?_
            refine K.iload dDM_1002 rfl ?_
            refine K.iconst (1 : Int32) dDM_1004 rfl ?_
            refine K.iadd dDM_1005 ?_
            refine K.aload dDM_1006 rfl rfl ?_
            refine K.getF dDM_1008 (wd158 hw) fr1 ?_
            refine K.iadd dDM_1011 ?_
            show Wk E h1 4 13 1012 #[oA a, oA b, oA q, oI (0 : Int32), oI (Int32.ofNat s), oI (2 : Int32), oA dv, oA rm, oI (Int32.ofNat 4), oI (3 : Int32), oA qa, oI (ga 0), oJ D, oT, oI (ga 1), oI q_, oI r_, oI (0 : Int32), oI (g 2), oI ((g 2) + (-2147483648 : Int32)), oI (g 3), oJ ck, oT, oJ z288, oT, oU, s26, s27] [.int (Int32.ofNat 4), .ref ra]
            refine K.iaload (v := .int (g 4)) dDM_1012 ar (by decide) (by decide) rfl ?_
            refine K.i2l dDM_1013 ?_
            refine K.ldc2J dDM_1014 (wd187 hw) ?_
            refine K.land dDM_1017 ?_
            refine K.lstore #[oA a, oA b, oA q, oI (0 : Int32), oI (Int32.ofNat s), oI (2 : Int32), oA dv, oA rm, oI (Int32.ofNat 4), oI (3 : Int32), oA qa, oI (ga 0), oJ D, oT, oI (ga 1), oI q_, oI r_, oI (0 : Int32), oI (g 2), oI ((g 2) + (-2147483648 : Int32)), oI (g 3), oJ (((g 4).toInt64) &&& (4294967295 : Int64)), oT, oJ z288, oT, oU, s26, s27] dDM_1018 rfl ?_
            refine K.iload dDM_1020 rfl ?_
            refine K.i2l dDM_1022 ?_
            refine K.ldc2J dDM_1023 (wd187 hw) ?_
            refine K.land dDM_1026 ?_
            refine K.bipush (32 : Int32) dDM_1027 rfl ?_
            refine K.lshl dDM_1029 ?_
            refine K.lload dDM_1030 rfl ?_
            refine K.lor dDM_1032 ?_
            refine K.lstore #[oA a, oA b, oA q, oI (0 : Int32), oI (Int32.ofNat s), oI (2 : Int32), oA dv, oA rm, oI (Int32.ofNat 4), oI (3 : Int32), oA qa, oI (ga 0), oJ D, oT, oI (ga 1), oI q_, oI r_, oI (0 : Int32), oI (g 2), oI ((g 2) + (-2147483648 : Int32)), oI (g 3), oJ (((g 4).toInt64) &&& (4294967295 : Int64)), oT, oJ (((r_.toInt64 &&& (4294967295 : Int64)) <<< ((32 : Int32) &&& 63).toInt64) ||| (((g 4).toInt64) &&& (4294967295 : Int64))), oT, oU, s26, s27] dDM_1033 rfl ?_
            refine K.iload dDM_1035 rfl ?_
            refine K.i2l dDM_1037 ?_
            refine K.ldc2J dDM_1038 (wd187 hw) ?_
            refine K.land dDM_1041 ?_
            refine K.iload dDM_1042 rfl ?_
            refine K.i2l dDM_1044 ?_
            refine K.ldc2J dDM_1045 (wd187 hw) ?_
            refine K.land dDM_1048 ?_
            refine K.lmul dDM_1049 ?_
            refine K.lstore #[oA a, oA b, oA q, oI (0 : Int32), oI (Int32.ofNat s), oI (2 : Int32), oA dv, oA rm, oI (Int32.ofNat 4), oI (3 : Int32), oA qa, oI (ga 0), oJ D, oT, oI (ga 1), oI q_, oI r_, oI (0 : Int32), oI (g 2), oI ((g 2) + (-2147483648 : Int32)), oI (g 3), oJ (((g 4).toInt64) &&& (4294967295 : Int64)), oT, oJ (((r_.toInt64 &&& (4294967295 : Int64)) <<< ((32 : Int32) &&& 63).toInt64) ||| (((g 4).toInt64) &&& (4294967295 : Int64))), oT, oJ ((((ga 1).toInt64) &&& (4294967295 : Int64)) * (q_.toInt64 &&& (4294967295 : Int64))), oT, oU] dDM_1050 (by rcases p26 with ⟨z_, rfl, rfl⟩ | ⟨rfl, rfl | ⟨z_, rfl⟩⟩ <;> rfl) ?_
            exact J181 _ _ _ _ _ _
        · refine K.lload dDM_938 rfl ?_
          refine K.lload dDM_940 rfl ?_
          refine K.ldiv dDM_942 (own_Dn hD (by omega)) ?_
          refine K.l2i dDM_943 ?_
          obtain ⟨q_, eq_⟩ : ∃ x_ : Int32, x_ = (ck / D).toInt32 := ⟨_, rfl⟩
          rw [← eq_]
          refine K.istore #[oA a, oA b, oA q, oI (0 : Int32), oI (Int32.ofNat s), oI (2 : Int32), oA dv, oA rm, oI (Int32.ofNat 4), oI (3 : Int32), oA qa, oI (ga 0), oJ D, oT, oI (ga 1), oI q_, oI (0 : Int32), oI (0 : Int32), oI (g 2), oI ((g 2) + (-2147483648 : Int32)), oI (g 3), oJ ck, oT, oU, s24, s25, s26, s27] dDM_944 rfl ?_
          refine K.lload dDM_946 rfl ?_
          refine K.iload dDM_948 rfl ?_
          refine K.i2l dDM_950 ?_
          refine K.lload dDM_951 rfl ?_
          refine K.lmul dDM_953 ?_
          refine K.lsub dDM_954 ?_
          refine K.l2i dDM_955 ?_
          obtain ⟨r_, er_⟩ : ∃ x_ : Int32, x_ = (ck - (q_.toInt64 * D)).toInt32 := ⟨_, rfl⟩
          rw [← er_]
          refine K.istore #[oA a, oA b, oA q, oI (0 : Int32), oI (Int32.ofNat s), oI (2 : Int32), oA dv, oA rm, oI (Int32.ofNat 4), oI (3 : Int32), oA qa, oI (ga 0), oJ D, oT, oI (ga 1), oI q_, oI r_, oI (0 : Int32), oI (g 2), oI ((g 2) + (-2147483648 : Int32)), oI (g 3), oJ ck, oT, oU, s24, s25, s26, s27] dDM_956 rfl ?_
          refine K.goto dDM_958 ?_
          refine K.iload dDM_987 rfl ?_
          refine K.if_eq dDM_989 (fun hc308 => ?_) (fun hc308 => ?_)
          · refine K.iloadN dDM_1261 rfl ?_
            refine K.if_eq dDM_1262 (fun _ => ?_) (fun u => absurd rfl u)
            refine K.aloadN dDM_1282 rfl rfl ?_
            refine K.callV (a := q) [] [] 0 4 13 dDM_1283 (wd189 hw) (wd190 hw) (wd192 hw) (wd191 hw) (wd152 hw) (wd193 hw) (by decide) (rmNM l Z a0 hw q qa 3 gq h1 n0 xq fq1 fq2 fq3 aq geq (Ne.symm n7) (by decide) (by decide) (hor.imp id fun u => ⟨u, by decide⟩)) xq rfl (lenOf pd_5 rfl) rfl (Nat.le_of_eq rfl) (by decide) (by decide) rfl rfl (by decide) (by decide) (goU fun h309 q310 => ?_)
            obtain ⟨K311, i312, hi313, hi314, F315, F316, F317⟩ := q310
            have K318 := kk.trans K311 (allS (Or.inl (mg 0 rfl)) all0)
            have E319 := ea.keep K311
            have F320 := fr1.keep K311 (ninS n8 nin0)
            have F321 := fr2.keep K311 (ninS n8 nin0)
            have I322 := av.keep K311 (ninS n9 nin0)
            have I323 := ar.keep K311 (ninS n10 nin0)
            have E324 := xq.keep K311
            have I325 := aq.keep K311 (ninS (Ne.symm n7) nin0)
            refine K.iloadN dDM_1286 rfl ?_
            refine K.if_eq dDM_1287 (fun _ => ?_) (fun u => absurd rfl u)
            refine K.aconst_null dDM_1295 ?_
            exact K.areturn dDM_1296 rfl rfl rfl (by decide) (by decide) ⟨rfl, K318, qa, i312, 3, _, sqa, gqa, hi313, hi314, by decide, ⟨F315, F316, F317⟩, I325⟩
          · refine K.iload dDM_992 rfl ?_
            refine K.if_ne dDM_994 (fun _ => ?_) (fun u => absurd rfl u)
            refine K.aload dDM_997 rfl rfl ?_
            refine K.getF dDM_999 (wd160 hw) fr2 ?_
            refine K.iload dDM_1002 rfl ?_
            refine K.iconst (1 : Int32) dDM_1004 rfl ?_
            refine K.iadd dDM_1005 ?_
            refine K.aload dDM_1006 rfl rfl ?_
            refine K.getF dDM_1008 (wd158 hw) fr1 ?_
            refine K.iadd dDM_1011 ?_
            show Wk E h1 4 13 1012 #[oA a, oA b, oA q, oI (0 : Int32), oI (Int32.ofNat s), oI (2 : Int32), oA dv, oA rm, oI (Int32.ofNat 4), oI (3 : Int32), oA qa, oI (ga 0), oJ D, oT, oI (ga 1), oI q_, oI r_, oI (0 : Int32), oI (g 2), oI ((g 2) + (-2147483648 : Int32)), oI (g 3), oJ ck, oT, oU, s24, s25, s26, s27] [.int (Int32.ofNat 4), .ref ra]
            refine K.iaload (v := .int (g 4)) dDM_1012 ar (by decide) (by decide) rfl ?_
            refine K.i2l dDM_1013 ?_
            refine K.ldc2J dDM_1014 (wd187 hw) ?_
            refine K.land dDM_1017 ?_
            refine K.lstore #[oA a, oA b, oA q, oI (0 : Int32), oI (Int32.ofNat s), oI (2 : Int32), oA dv, oA rm, oI (Int32.ofNat 4), oI (3 : Int32), oA qa, oI (ga 0), oJ D, oT, oI (ga 1), oI q_, oI r_, oI (0 : Int32), oI (g 2), oI ((g 2) + (-2147483648 : Int32)), oI (g 3), oJ (((g 4).toInt64) &&& (4294967295 : Int64)), oT, oU, s24, s25, s26, s27] dDM_1018 rfl ?_
            refine K.iload dDM_1020 rfl ?_
            refine K.i2l dDM_1022 ?_
            refine K.ldc2J dDM_1023 (wd187 hw) ?_
            refine K.land dDM_1026 ?_
            refine K.bipush (32 : Int32) dDM_1027 rfl ?_
            refine K.lshl dDM_1029 ?_
            refine K.lload dDM_1030 rfl ?_
            refine K.lor dDM_1032 ?_
            refine K.lstore #[oA a, oA b, oA q, oI (0 : Int32), oI (Int32.ofNat s), oI (2 : Int32), oA dv, oA rm, oI (Int32.ofNat 4), oI (3 : Int32), oA qa, oI (ga 0), oJ D, oT, oI (ga 1), oI q_, oI r_, oI (0 : Int32), oI (g 2), oI ((g 2) + (-2147483648 : Int32)), oI (g 3), oJ (((g 4).toInt64) &&& (4294967295 : Int64)), oT, oJ (((r_.toInt64 &&& (4294967295 : Int64)) <<< ((32 : Int32) &&& 63).toInt64) ||| (((g 4).toInt64) &&& (4294967295 : Int64))), oT, oU, s26, s27] dDM_1033 (by rcases p24 with ⟨z_, rfl, rfl⟩ | ⟨rfl, rfl | ⟨z_, rfl⟩⟩ <;> rfl) ?_
            refine K.iload dDM_1035 rfl ?_
            refine K.i2l dDM_1037 ?_
            refine K.ldc2J dDM_1038 (wd187 hw) ?_
            refine K.land dDM_1041 ?_
            refine K.iload dDM_1042 rfl ?_
            refine K.i2l dDM_1044 ?_
            refine K.ldc2J dDM_1045 (wd187 hw) ?_
            refine K.land dDM_1048 ?_
            refine K.lmul dDM_1049 ?_
            refine K.lstore #[oA a, oA b, oA q, oI (0 : Int32), oI (Int32.ofNat s), oI (2 : Int32), oA dv, oA rm, oI (Int32.ofNat 4), oI (3 : Int32), oA qa, oI (ga 0), oJ D, oT, oI (ga 1), oI q_, oI r_, oI (0 : Int32), oI (g 2), oI ((g 2) + (-2147483648 : Int32)), oI (g 3), oJ (((g 4).toInt64) &&& (4294967295 : Int64)), oT, oJ (((r_.toInt64 &&& (4294967295 : Int64)) <<< ((32 : Int32) &&& 63).toInt64) ||| (((g 4).toInt64) &&& (4294967295 : Int64))), oT, oJ ((((ga 1).toInt64) &&& (4294967295 : Int64)) * (q_.toInt64 &&& (4294967295 : Int64))), oT, oU] dDM_1050 (by rcases p26 with ⟨z_, rfl, rfl⟩ | ⟨rfl, rfl | ⟨z_, rfl⟩⟩ <;> rfl) ?_
            exact J181 _ _ _ _ _ _
  have J1 : ∀ (h1 : Heap) (dv ra rm qa : Addr) (s : Nat) (g gq ga : Nat → Int32) (D : Int64) (z16 z17 z18 z19 z20 z21 : Int32) (s22 s23 s24 s25 s26 s27 : Slot), G2 s22 s23 → G2 s24 s25 → G2 s26 s27 → Exa Z h1 a "java/math/MutableBigInteger" → Fld Z h1 rm "java/math/MutableBigInteger" "offset" "I" (.int 0) → Fld Z h1 rm "java/math/MutableBigInteger" "value" "[I" (.ref ra) → Ia Z h1 dv .int (Int32.ofNat 2) (intF ga) → Ia Z h1 ra .int (Int32.ofNat 5) (intF g) → Exa Z h1 q "java/math/MutableBigInteger" → Fld Z h1 q "java/math/MutableBigInteger" "offset" "I" (.int 0) → Fld Z h1 q "java/math/MutableBigInteger" "value" "[I" (.ref qa) → Fld Z h1 q "java/math/MutableBigInteger" "intLen" "I" (.int 3) → Ia Z h1 qa .int (Int32.ofNat 3) (intF gq) → Keep h h1 [q] → n0 ≤ ra → n0 ≤ qa → h.size ≤ ra → h.size ≤ qa → ra ≠ dv → rm ≠ ra → rm ≠ qa → qa ≠ ra → dv ≠ qa → q ≠ ra → q ≠ qa → rm ≠ q → dv ≠ q → ra ≠ q → 2147483648 ≤ uv (ga 0) → D.toInt = uv (ga 0) → uv (g 1) * 4294967296 + uv (g 2) < uv (ga 0) * 4294967296 + uv (ga 1) → (¬ gq 0 = 0 ∨ 4294967296 ≤ uv (g 1) * 4294967296 + uv (g 2)) → Wk E h1 4 13 423 #[oA a, oA b, oA q, oI (0 : Int32), oI (Int32.ofNat s), oI (2 : Int32), oA dv, oA rm, oI (Int32.ofNat 4), oI (3 : Int32), oA qa, oI (ga 0), oJ D, oT, oI (ga 1), oI (1 : Int32), oI z16, oI z17, oI z18, oI z19, oI z20, oI z21, s22, s23, s24, s25, s26, s27] [] := by
    as_aux_lemma =>
      intro h1 dv ra rm qa s g gq ga D z16 z17 z18 z19 z20 z21 s22 s23 s24 s25 s26 s27 p22 p24 p26 ea fr1 fr2 av ar xq fq1 fq2 fq3 aq kk gra gqa sra sqa n1 n2 n3 n4 n5 n6 n7 n8 n9 n10 hdh hD hinv hor
      refine K.iload dDM_423 rfl ?_
      refine K.iload dDM_425 rfl ?_
      refine K.iconst (1 : Int32) dDM_427 rfl ?_
      refine K.isub dDM_428 ?_
      refine K.ic_ge dDM_429 (fun _ => ?_) (fun u => absurd (by decide) u)
      refine K.iconst (0 : Int32) dDM_432 rfl ?_
      refine K.istore #[oA a, oA b, oA q, oI (0 : Int32), oI (Int32.ofNat s), oI (2 : Int32), oA dv, oA rm, oI (Int32.ofNat 4), oI (3 : Int32), oA qa, oI (ga 0), oJ D, oT, oI (ga 1), oI (1 : Int32), oI (0 : Int32), oI z17, oI z18, oI z19, oI z20, oI z21, s22, s23, s24, s25, s26, s27] dDM_433 rfl ?_
      refine K.iconst (0 : Int32) dDM_435 rfl ?_
      refine K.istore #[oA a, oA b, oA q, oI (0 : Int32), oI (Int32.ofNat s), oI (2 : Int32), oA dv, oA rm, oI (Int32.ofNat 4), oI (3 : Int32), oA qa, oI (ga 0), oJ D, oT, oI (ga 1), oI (1 : Int32), oI (0 : Int32), oI (0 : Int32), oI z18, oI z19, oI z20, oI z21, s22, s23, s24, s25, s26, s27] dDM_436 rfl ?_
      refine K.iconst (0 : Int32) dDM_438 rfl ?_
      refine K.istore #[oA a, oA b, oA q, oI (0 : Int32), oI (Int32.ofNat s), oI (2 : Int32), oA dv, oA rm, oI (Int32.ofNat 4), oI (3 : Int32), oA qa, oI (ga 0), oJ D, oT, oI (ga 1), oI (1 : Int32), oI (0 : Int32), oI (0 : Int32), oI (0 : Int32), oI z19, oI z20, oI z21, s22, s23, s24, s25, s26, s27] dDM_439 rfl ?_
      refine K.aload dDM_441 rfl rfl ?_
      refine K.getF dDM_443 (wd160 hw) fr2 ?_
      refine K.iload dDM_446 rfl ?_
      refine K.aload dDM_448 rfl rfl ?_
      refine K.getF dDM_450 (wd158 hw) fr1 ?_
      refine K.iadd dDM_453 ?_
      show Wk E h1 4 13 454 #[oA a, oA b, oA q, oI (0 : Int32), oI (Int32.ofNat s), oI (2 : Int32), oA dv, oA rm, oI (Int32.ofNat 4), oI (3 : Int32), oA qa, oI (ga 0), oJ D, oT, oI (ga 1), oI (1 : Int32), oI (0 : Int32), oI (0 : Int32), oI (0 : Int32), oI z19, oI z20, oI z21, s22, s23, s24, s25, s26, s27] [.int (Int32.ofNat 1), .ref ra]
      refine K.iaload (v := .int (g 1)) dDM_454 ar (by decide) (by decide) rfl ?_
      refine K.istore #[oA a, oA b, oA q, oI (0 : Int32), oI (Int32.ofNat s), oI (2 : Int32), oA dv, oA rm, oI (Int32.ofNat 4), oI (3 : Int32), oA qa, oI (ga 0), oJ D, oT, oI (ga 1), oI (1 : Int32), oI (0 : Int32), oI (0 : Int32), oI (0 : Int32), oI (g 1), oI z20, oI z21, s22, s23, s24, s25, s26, s27] dDM_455 rfl ?_
      refine K.iload dDM_457 rfl ?_
      refine K.ldcI dDM_459 (wd261 hw) ?_
      refine K.iadd dDM_461 ?_
      refine K.istore #[oA a, oA b, oA q, oI (0 : Int32), oI (Int32.ofNat s), oI (2 : Int32), oA dv, oA rm, oI (Int32.ofNat 4), oI (3 : Int32), oA qa, oI (ga 0), oJ D, oT, oI (ga 1), oI (1 : Int32), oI (0 : Int32), oI (0 : Int32), oI (0 : Int32), oI (g 1), oI ((g 1) + (-2147483648 : Int32)), oI z21, s22, s23, s24, s25, s26, s27] dDM_462 rfl ?_
      refine K.aload dDM_464 rfl rfl ?_
      refine K.getF dDM_466 (wd160 hw) fr2 ?_
      refine K.iload dDM_469 rfl ?_
      refine K.iconst (1 : Int32) dDM_471 rfl ?_
      refine K.iadd dDM_472 ?_
      refine K.aload dDM_473 rfl rfl ?_
      refine K.getF dDM_475 (wd158 hw) fr1 ?_
      refine K.iadd dDM_478 ?_
      show Wk E h1 4 13 479 #[oA a, oA b, oA q, oI (0 : Int32), oI (Int32.ofNat s), oI (2 : Int32), oA dv, oA rm, oI (Int32.ofNat 4), oI (3 : Int32), oA qa, oI (ga 0), oJ D, oT, oI (ga 1), oI (1 : Int32), oI (0 : Int32), oI (0 : Int32), oI (0 : Int32), oI (g 1), oI ((g 1) + (-2147483648 : Int32)), oI z21, s22, s23, s24, s25, s26, s27] [.int (Int32.ofNat 2), .ref ra]
      refine K.iaload (v := .int (g 2)) dDM_479 ar (by decide) (by decide) rfl ?_
      refine K.istore #[oA a, oA b, oA q, oI (0 : Int32), oI (Int32.ofNat s), oI (2 : Int32), oA dv, oA rm, oI (Int32.ofNat 4), oI (3 : Int32), oA qa, oI (ga 0), oJ D, oT, oI (ga 1), oI (1 : Int32), oI (0 : Int32), oI (0 : Int32), oI (0 : Int32), oI (g 1), oI ((g 1) + (-2147483648 : Int32)), oI (g 2), s22, s23, s24, s25, s26, s27] dDM_480 rfl ?_
      refine K.iload dDM_482 rfl ?_
      refine K.iload dDM_484 rfl ?_
      have rh := uv_rng (g 1)
      have rm_ := uv_rng (g 2)
      have rl := uv_rng (g 3)
      have rdh := uv_rng (ga 0)
      have rdl := uv_rng (ga 1)
      refine cut (P := ∀ (qh qr sk : Int32) (t22 t23 t24 t25 : Slot), QR (g 1) (g 2) (ga 0) qh qr sk → G2 t22 t23 → G2 t24 t25 → Wk E h1 4 13 591 #[oA a, oA b, oA q, oI (0 : Int32), oI (Int32.ofNat s), oI (2 : Int32), oA dv, oA rm, oI (Int32.ofNat 4), oI (3 : Int32), oA qa, oI (ga 0), oJ D, oT, oI (ga 1), oI (1 : Int32), oI qh, oI qr, oI sk, oI (g 1), oI (g 1 + (-2147483648 : Int32)), oI (g 2), t22, t23, t24, t25, s26, s27] []) (fun J326 => ?_) ?_
      · refine K.ic_ne dDM_486 (fun hc327 => ?_) (fun hc327 => ?_)
        · refine K.iconst (-1 : Int32) dDM_489 rfl ?_
          refine K.istore #[oA a, oA b, oA q, oI (0 : Int32), oI (Int32.ofNat s), oI (2 : Int32), oA dv, oA rm, oI (Int32.ofNat 4), oI (3 : Int32), oA qa, oI (ga 0), oJ D, oT, oI (ga 1), oI (1 : Int32), oI (-1 : Int32), oI (0 : Int32), oI (0 : Int32), oI (g 1), oI ((g 1) + (-2147483648 : Int32)), oI (g 2), s22, s23, s24, s25, s26, s27] dDM_490 rfl ?_
          refine K.iload dDM_492 rfl ?_
          refine K.iload dDM_494 rfl ?_
          refine K.iadd dDM_496 ?_
          refine K.istore #[oA a, oA b, oA q, oI (0 : Int32), oI (Int32.ofNat s), oI (2 : Int32), oA dv, oA rm, oI (Int32.ofNat 4), oI (3 : Int32), oA qa, oI (ga 0), oJ D, oT, oI (ga 1), oI (1 : Int32), oI (-1 : Int32), oI ((g 1) + (g 2)), oI (0 : Int32), oI (g 1), oI ((g 1) + (-2147483648 : Int32)), oI (g 2), s22, s23, s24, s25, s26, s27] dDM_497 rfl ?_
          refine K.iload dDM_499 rfl ?_
          refine K.ldcI dDM_501 (wd261 hw) ?_
          refine K.iadd dDM_503 ?_
          refine K.iload dDM_504 rfl ?_
          refine cut (P := ∀ z328 : Int32, z328 = (if (((g 1) + (g 2)) + (-2147483648 : Int32)) < ((g 1) + (-2147483648 : Int32)) then 1 else 0) → Wk E h1 4 13 514 #[oA a, oA b, oA q, oI (0 : Int32), oI (Int32.ofNat s), oI (2 : Int32), oA dv, oA rm, oI (Int32.ofNat 4), oI (3 : Int32), oA qa, oI (ga 0), oJ D, oT, oI (ga 1), oI (1 : Int32), oI (-1 : Int32), oI ((g 1) + (g 2)), oI (0 : Int32), oI (g 1), oI ((g 1) + (-2147483648 : Int32)), oI (g 2), s22, s23, s24, s25, s26, s27] [.int z328]) (fun J329 => ?_) ?_
          · refine K.ic_ge dDM_506 (fun hc330 => ?_) (fun hc330 => ?_)
            · refine K.iconst (1 : Int32) dDM_509 rfl ?_
              refine K.goto dDM_510 ?_
              exact J329 _ (if_pos hc330).symm
            · refine K.iconst (0 : Int32) dDM_513 rfl ?_
              exact J329 _ (if_neg hc330).symm
          intro z328 hz328
          refine K.istore #[oA a, oA b, oA q, oI (0 : Int32), oI (Int32.ofNat s), oI (2 : Int32), oA dv, oA rm, oI (Int32.ofNat 4), oI (3 : Int32), oA qa, oI (ga 0), oJ D, oT, oI (ga 1), oI (1 : Int32), oI (-1 : Int32), oI ((g 1) + (g 2)), oI z328, oI (g 1), oI ((g 1) + (-2147483648 : Int32)), oI (g 2), s22, s23, s24, s25, s26, s27] dDM_514 rfl ?_
          refine K.goto dDM_516 ?_
          exact J326 _ _ _ s22 s23 s24 s25 (qr_eq hc327 hz328) p22 p24 
        · have hlt := own_nlt hinv hc327
          refine K.iload dDM_519 rfl ?_
          refine K.i2l dDM_521 ?_
          refine K.bipush (32 : Int32) dDM_522 rfl ?_
          refine K.lshl dDM_524 ?_
          refine K.iload dDM_525 rfl ?_
          refine K.i2l dDM_527 ?_
          refine K.ldc2J dDM_528 (wd187 hw) ?_
          refine K.land dDM_531 ?_
          refine K.lor dDM_532 ?_
          obtain ⟨ck, eck⟩ : ∃ x_ : Int64, x_ = (((g 1).toInt64) <<< ((32 : Int32) &&& 63).toInt64) ||| (((g 2).toInt64) &&& (4294967295 : Int64)) := ⟨_, rfl⟩
          rw [← eck]
          have hck : uw ck = uv (g 1) * 4294967296 + uv (g 2) := by rw [eck]; exact uw_chunk _ _
          refine K.lstore #[oA a, oA b, oA q, oI (0 : Int32), oI (Int32.ofNat s), oI (2 : Int32), oA dv, oA rm, oI (Int32.ofNat 4), oI (3 : Int32), oA qa, oI (ga 0), oJ D, oT, oI (ga 1), oI (1 : Int32), oI (0 : Int32), oI (0 : Int32), oI (0 : Int32), oI (g 1), oI ((g 1) + (-2147483648 : Int32)), oI (g 2), oJ ck, oT, s24, s25, s26, s27] dDM_533 (by rcases p22 with ⟨z_, rfl, rfl⟩ | ⟨rfl, rfl | ⟨z_, rfl⟩⟩ <;> rfl) ?_
          refine K.lload dDM_535 rfl ?_
          refine K.lconst (0 : Int64) dDM_537 rfl ?_
          refine K.lc_lt dDM_538 dDM_539 (fun hc331 => ?_) (fun hc331 => ?_)
          · refine K.lload dDM_565 rfl ?_
            refine K.iload dDM_567 rfl ?_
            refine K.callS [.long ck, .int (ga 0)] [] 0 4 13 dDM_569 (wd262 hw) (wd263 hw) (wd152 hw) (wd264 hw) (by decide) (rmDW l Z a0 hw ck (ga 0) h1 n0 hdh (by rw [hck]; exact hlt)) rfl (lenOf pd_18 rfl) rfl (Nat.le_of_eq rfl) (by decide) (by decide) rfl rfl (by decide) (by decide) (goJs fun z332 q333 => ?_)
            rw [hck] at q333
            have Q := own_qrw q333 (by omega) (by omega) hlt
            refine K.lstore #[oA a, oA b, oA q, oI (0 : Int32), oI (Int32.ofNat s), oI (2 : Int32), oA dv, oA rm, oI (Int32.ofNat 4), oI (3 : Int32), oA qa, oI (ga 0), oJ D, oT, oI (ga 1), oI (1 : Int32), oI (0 : Int32), oI (0 : Int32), oI (0 : Int32), oI (g 1), oI ((g 1) + (-2147483648 : Int32)), oI (g 2), oJ ck, oT, oJ z332, oT, s26, s27] dDM_572 (by rcases p24 with ⟨z_, rfl, rfl⟩ | ⟨rfl, rfl | ⟨z_, rfl⟩⟩ <;> rfl) ?_
            refine K.lload dDM_574 rfl ?_
            refine K.ldc2J dDM_576 (wd187 hw) ?_
            refine K.land dDM_579 ?_
            refine K.l2i dDM_580 ?_
            obtain ⟨q_, eq_⟩ : ∃ x_ : Int32, x_ = (z332 &&& (4294967295 : Int64)).toInt32 := ⟨_, rfl⟩
            rw [← eq_]
            refine K.istore #[oA a, oA b, oA q, oI (0 : Int32), oI (Int32.ofNat s), oI (2 : Int32), oA dv, oA rm, oI (Int32.ofNat 4), oI (3 : Int32), oA qa, oI (ga 0), oJ D, oT, oI (ga 1), oI (1 : Int32), oI q_, oI (0 : Int32), oI (0 : Int32), oI (g 1), oI ((g 1) + (-2147483648 : Int32)), oI (g 2), oJ ck, oT, oJ z332, oT, s26, s27] dDM_581 rfl ?_
            refine K.lload dDM_583 rfl ?_
            refine K.bipush (32 : Int32) dDM_585 rfl ?_
            refine K.lushr dDM_587 ?_
            refine K.l2i dDM_588 ?_
            obtain ⟨r_, er_⟩ : ∃ x_ : Int32, x_ = ((z332.toUInt64 >>> ((32 : Int32) &&& 63).toInt64.toUInt64).toInt64).toInt32 := ⟨_, rfl⟩
            rw [← er_]
            rw [← eq_, ← er_] at Q
            refine K.istore #[oA a, oA b, oA q, oI (0 : Int32), oI (Int32.ofNat s), oI (2 : Int32), oA dv, oA rm, oI (Int32.ofNat 4), oI (3 : Int32), oA qa, oI (ga 0), oJ D, oT, oI (ga 1), oI (1 : Int32), oI q_, oI r_, oI (0 : Int32), oI (g 1), oI ((g 1) + (-2147483648 : Int32)), oI (g 2), oJ ck, oT, oJ z332, oT, s26, s27] dDM_589 rfl ?_
            exact J326 _ _ _ (.val (.long ck)) .second (.val (.long z332)) .second (qr_of rfl (by omega) Q.1 Q.2) (g2J _) (g2J _) 
          · have Q := own_qr hck hD (by omega) rdh.2 hc331 hlt
            refine K.lload dDM_542 rfl ?_
            refine K.lload dDM_544 rfl ?_
            refine K.ldiv dDM_546 (own_Dn hD (by omega)) ?_
            refine K.l2i dDM_547 ?_
            obtain ⟨q_, eq_⟩ : ∃ x_ : Int32, x_ = (ck / D).toInt32 := ⟨_, rfl⟩
            rw [← eq_]
            rw [← eq_] at Q
            refine K.istore #[oA a, oA b, oA q, oI (0 : Int32), oI (Int32.ofNat s), oI (2 : Int32), oA dv, oA rm, oI (Int32.ofNat 4), oI (3 : Int32), oA qa, oI (ga 0), oJ D, oT, oI (ga 1), oI (1 : Int32), oI q_, oI (0 : Int32), oI (0 : Int32), oI (g 1), oI ((g 1) + (-2147483648 : Int32)), oI (g 2), oJ ck, oT, s24, s25, s26, s27] dDM_548 rfl ?_
            refine K.lload dDM_550 rfl ?_
            refine K.iload dDM_552 rfl ?_
            refine K.i2l dDM_554 ?_
            refine K.lload dDM_555 rfl ?_
            refine K.lmul dDM_557 ?_
            refine K.lsub dDM_558 ?_
            refine K.l2i dDM_559 ?_
            obtain ⟨r_, er_⟩ : ∃ x_ : Int32, x_ = (ck - (q_.toInt64 * D)).toInt32 := ⟨_, rfl⟩
            rw [← er_]
            rw [← er_] at Q
            refine K.istore #[oA a, oA b, oA q, oI (0 : Int32), oI (Int32.ofNat s), oI (2 : Int32), oA dv, oA rm, oI (Int32.ofNat 4), oI (3 : Int32), oA qa, oI (ga 0), oJ D, oT, oI (ga 1), oI (1 : Int32), oI q_, oI r_, oI (0 : Int32), oI (g 1), oI ((g 1) + (-2147483648 : Int32)), oI (g 2), oJ ck, oT, s24, s25, s26, s27] dDM_560 rfl ?_
            refine K.goto dDM_562 ?_
            exact J326 _ _ _ (.val (.long ck)) .second s24 s25 (qr_of rfl (by omega) Q.1 Q.2) (g2J _) p24 
      intro qh qr sk t22 t23 t24 t25 hQR y22 y24
      refine K.iload dDM_591 rfl ?_
      refine K.if_ne dDM_593 (fun hc334 => ?_) (fun hc334 => ?_)
      · rw [hc334] at hQR
        obtain ⟨e1, e2, e3⟩ := qr_zero (nl := (g 3)) (dl := ga 1) hdh hQR
        refine K.goto dDM_596 ?_
        refine K.iinc ((2 : Int32)) #[oA a, oA b, oA q, oI (0 : Int32), oI (Int32.ofNat s), oI (2 : Int32), oA dv, oA rm, oI (Int32.ofNat 4), oI (3 : Int32), oA qa, oI (ga 0), oJ D, oT, oI (ga 1), oI (2 : Int32), oI qh, oI qr, oI sk, oI (g 1), oI (g 1 + (-2147483648 : Int32)), oI (g 2), t22, t23, t24, t25, s26, s27] dDM_822 rfl rfl rfl ?_
        refine K.goto dDM_825 ?_
        exact J2 h1 dv ra rm qa s g gq ga D qh qr sk (g 1) (g 1 + (-2147483648 : Int32)) (g 2) t22 t23 t24 t25 s26 s27 y22 y24 p26 ea fr1 fr2 av ar xq fq1 fq2 fq3 aq kk gra gqa sra sqa n1 n2 n3 n4 n5 n6 n7 n8 n9 n10 hdh hD e3 (hor.imp id fun u => absurd u (by omega))
      · refine K.iload dDM_599 rfl ?_
        refine cut (P := ∀ (qf q2 : Int32) (t22 t23 t24 t25 t26 t27 : Slot), DG (g 1) (g 2) (g 3) (ga 0) (ga 1) qf → G2 t22 t23 → G2 t24 t25 → G2 t26 t27 → Wk E h1 4 13 740 #[oA a, oA b, oA q, oI (0 : Int32), oI (Int32.ofNat s), oI (2 : Int32), oA dv, oA rm, oI (Int32.ofNat 4), oI (3 : Int32), oA qa, oI (ga 0), oJ D, oT, oI (ga 1), oI (1 : Int32), oI qf, oI q2, oI sk, oI (g 1), oI (g 1 + (-2147483648 : Int32)), oI (g 2), t22, t23, t24, t25, t26, t27] []) (fun J335 => ?_) ?_
        · refine K.if_ne dDM_601 (fun hc336 => ?_) (fun hc336 => ?_)
          · refine K.aload dDM_604 rfl rfl ?_
            refine K.getF dDM_606 (wd160 hw) fr2 ?_
            refine K.iload dDM_609 rfl ?_
            refine K.iconst (2 : Int32) dDM_611 rfl ?_
            refine K.iadd dDM_612 ?_
            refine K.aload dDM_613 rfl rfl ?_
            refine K.getF dDM_615 (wd158 hw) fr1 ?_
            refine K.iadd dDM_618 ?_
            show Wk E h1 4 13 619 #[oA a, oA b, oA q, oI (0 : Int32), oI (Int32.ofNat s), oI (2 : Int32), oA dv, oA rm, oI (Int32.ofNat 4), oI (3 : Int32), oA qa, oI (ga 0), oJ D, oT, oI (ga 1), oI (1 : Int32), oI qh, oI qr, oI sk, oI (g 1), oI (g 1 + (-2147483648 : Int32)), oI (g 2), t22, t23, t24, t25, s26, s27] [.int (Int32.ofNat 3), .ref ra]
            refine K.iaload (v := .int (g 3)) dDM_619 ar (by decide) (by decide) rfl ?_
            refine K.i2l dDM_620 ?_
            refine K.ldc2J dDM_621 (wd187 hw) ?_
            refine K.land dDM_624 ?_
            refine K.lstore #[oA a, oA b, oA q, oI (0 : Int32), oI (Int32.ofNat s), oI (2 : Int32), oA dv, oA rm, oI (Int32.ofNat 4), oI (3 : Int32), oA qa, oI (ga 0), oJ D, oT, oI (ga 1), oI (1 : Int32), oI qh, oI qr, oI sk, oI (g 1), oI (g 1 + (-2147483648 : Int32)), oI (g 2), oJ (((g 3).toInt64) &&& (4294967295 : Int64)), oT, t24, t25, s26, s27] dDM_625 (by rcases y22 with ⟨z_, rfl, rfl⟩ | ⟨rfl, rfl | ⟨z_, rfl⟩⟩ <;> rfl) ?_
            refine K.iload dDM_627 rfl ?_
            refine K.i2l dDM_629 ?_
            refine K.ldc2J dDM_630 (wd187 hw) ?_
            refine K.land dDM_633 ?_
            refine K.bipush (32 : Int32) dDM_634 rfl ?_
            refine K.lshl dDM_636 ?_
            refine K.lload dDM_637 rfl ?_
            refine K.lor dDM_639 ?_
            obtain ⟨rs, ers⟩ : ∃ x_ : Int64, x_ = ((qr.toInt64 &&& (4294967295 : Int64)) <<< ((32 : Int32) &&& 63).toInt64) ||| (((g 3).toInt64) &&& (4294967295 : Int64)) := ⟨_, rfl⟩
            rw [← ers]
            have hrs : uw rs = uv qr * 4294967296 + uv (g 3) := by rw [ers]; exact uw_rs _ _
            refine K.lstore #[oA a, oA b, oA q, oI (0 : Int32), oI (Int32.ofNat s), oI (2 : Int32), oA dv, oA rm, oI (Int32.ofNat 4), oI (3 : Int32), oA qa, oI (ga 0), oJ D, oT, oI (ga 1), oI (1 : Int32), oI qh, oI qr, oI sk, oI (g 1), oI (g 1 + (-2147483648 : Int32)), oI (g 2), oJ (((g 3).toInt64) &&& (4294967295 : Int64)), oT, oJ rs, oT, s26, s27] dDM_640 (by rcases y24 with ⟨z_, rfl, rfl⟩ | ⟨rfl, rfl | ⟨z_, rfl⟩⟩ <;> rfl) ?_
            refine K.iload dDM_642 rfl ?_
            refine K.i2l dDM_644 ?_
            refine K.ldc2J dDM_645 (wd187 hw) ?_
            refine K.land dDM_648 ?_
            refine K.iload dDM_649 rfl ?_
            refine K.i2l dDM_651 ?_
            refine K.ldc2J dDM_652 (wd187 hw) ?_
            refine K.land dDM_655 ?_
            refine K.lmul dDM_656 ?_
            obtain ⟨es, ees⟩ : ∃ x_ : Int64, x_ = (((ga 1).toInt64) &&& (4294967295 : Int64)) * (qh.toInt64 &&& (4294967295 : Int64)) := ⟨_, rfl⟩
            rw [← ees]
            have hes : uw es = uv qh * uv (ga 1) := by rw [ees]; exact uw_est _ _
            refine K.lstore #[oA a, oA b, oA q, oI (0 : Int32), oI (Int32.ofNat s), oI (2 : Int32), oA dv, oA rm, oI (Int32.ofNat 4), oI (3 : Int32), oA qa, oI (ga 0), oJ D, oT, oI (ga 1), oI (1 : Int32), oI qh, oI qr, oI sk, oI (g 1), oI (g 1 + (-2147483648 : Int32)), oI (g 2), oJ (((g 3).toInt64) &&& (4294967295 : Int64)), oT, oJ rs, oT, oJ es, oT] dDM_657 (by rcases p26 with ⟨z_, rfl, rfl⟩ | ⟨rfl, rfl | ⟨z_, rfl⟩⟩ <;> rfl) ?_
            refine K.aloadN dDM_659 rfl rfl ?_
            refine K.lload dDM_660 rfl ?_
            refine K.lload dDM_662 rfl ?_
            refine K.callP (a := a) [.long es, .long rs] [] 0 4 13 dDM_664 (wd265 hw) (wd267 hw) (wd268 hw) (wd266 hw) (wd152 hw) (wd269 hw) (by decide) (rmUC l Z a0 hw a es rs h1 n0) ea rfl (lenOf pd_20 rfl) rfl (Nat.le_of_eq rfl) (by decide) (by decide) rfl rfl (by decide) (by decide) (goP ?_)
            refine K.if_eq dDM_667 (fun hc337 => ?_) (fun hc337 => ?_)
            · exact J335 _ _ (.val (.long (((g 3).toInt64) &&& (4294967295 : Int64)))) .second (.val (.long rs)) .second (.val (.long es)) .second (dg_0 hdh hinv hQR hc336 (uc_0 hes hrs hc337)) (g2J _) (g2J _) (g2J _)
            · obtain ⟨k1, k2, k3, k4⟩ := dg_1 hdh hinv hQR hc336 (uc_1 hes hrs hc337)
              refine K.iinc (qh + (-1)) #[oA a, oA b, oA q, oI (0 : Int32), oI (Int32.ofNat s), oI (2 : Int32), oA dv, oA rm, oI (Int32.ofNat 4), oI (3 : Int32), oA qa, oI (ga 0), oJ D, oT, oI (ga 1), oI (1 : Int32), oI (qh + (-1)), oI qr, oI sk, oI (g 1), oI (g 1 + (-2147483648 : Int32)), oI (g 2), oJ (((g 3).toInt64) &&& (4294967295 : Int64)), oT, oJ rs, oT, oJ es, oT] dDM_670 rfl rfl rfl ?_
              refine K.iload dDM_673 rfl ?_
              refine K.i2l dDM_675 ?_
              refine K.ldc2J dDM_676 (wd187 hw) ?_
              refine K.land dDM_679 ?_
              refine K.lload dDM_680 rfl ?_
              refine K.ladd dDM_682 ?_
              refine K.l2i dDM_683 ?_
              obtain ⟨qz, eqz⟩ : ∃ x_ : Int32, x_ = ((qr.toInt64 &&& (4294967295 : Int64)) + D).toInt32 := ⟨_, rfl⟩
              rw [← eqz]
              have hqz : uv qz = (uv qr + uv (ga 0)) % 4294967296 := by rw [eqz]; exact own_q2 hD
              refine K.istore #[oA a, oA b, oA q, oI (0 : Int32), oI (Int32.ofNat s), oI (2 : Int32), oA dv, oA rm, oI (Int32.ofNat 4), oI (3 : Int32), oA qa, oI (ga 0), oJ D, oT, oI (ga 1), oI (1 : Int32), oI (qh + (-1)), oI qz, oI sk, oI (g 1), oI (g 1 + (-2147483648 : Int32)), oI (g 2), oJ (((g 3).toInt64) &&& (4294967295 : Int64)), oT, oJ rs, oT, oJ es, oT] dDM_684 rfl ?_
              refine K.iload dDM_686 rfl ?_
              refine K.i2l dDM_688 ?_
              refine K.ldc2J dDM_689 (wd187 hw) ?_
              refine K.land dDM_692 ?_
              refine K.lload dDM_693 rfl ?_
              refine K.lc_lt dDM_695 dDM_696 (fun hc338 => ?_) (fun hc338 => ?_)
              · exact J335 _ _ (.val (.long (((g 3).toInt64) &&& (4294967295 : Int64)))) .second (.val (.long rs)) .second (.val (.long es)) .second (k3 (Or.inl (own_q2lt hD hqz hc338))) (g2J _) (g2J _) (g2J _)
              · obtain ⟨f1, f2⟩ := own_q2ge hD hqz hc338
                refine K.lload dDM_699 rfl ?_
                refine K.iload dDM_701 rfl ?_
                refine K.i2l dDM_703 ?_
                refine K.ldc2J dDM_704 (wd187 hw) ?_
                refine K.land dDM_707 ?_
                refine K.lsub dDM_708 ?_
                obtain ⟨es2, ees2⟩ : ∃ x_ : Int64, x_ = es - (((ga 1).toInt64) &&& (4294967295 : Int64)) := ⟨_, rfl⟩
                rw [← ees2]
                have hes2 : uw es2 = uv qh * uv (ga 1) - uv (ga 1) := by rw [ees2]; exact uw_est2 _ hes k2
                refine K.lstore #[oA a, oA b, oA q, oI (0 : Int32), oI (Int32.ofNat s), oI (2 : Int32), oA dv, oA rm, oI (Int32.ofNat 4), oI (3 : Int32), oA qa, oI (ga 0), oJ D, oT, oI (ga 1), oI (1 : Int32), oI (qh + (-1)), oI qz, oI sk, oI (g 1), oI (g 1 + (-2147483648 : Int32)), oI (g 2), oJ (((g 3).toInt64) &&& (4294967295 : Int64)), oT, oJ rs, oT, oJ es2, oT] dDM_709 rfl ?_
                refine K.iload dDM_711 rfl ?_
                refine K.i2l dDM_713 ?_
                refine K.ldc2J dDM_714 (wd187 hw) ?_
                refine K.land dDM_717 ?_
                refine K.bipush (32 : Int32) dDM_718 rfl ?_
                refine K.lshl dDM_720 ?_
                refine K.lload dDM_721 rfl ?_
                refine K.lor dDM_723 ?_
                obtain ⟨rs2, ers2⟩ : ∃ x_ : Int64, x_ = ((qz.toInt64 &&& (4294967295 : Int64)) <<< ((32 : Int32) &&& 63).toInt64) ||| (((g 3).toInt64) &&& (4294967295 : Int64)) := ⟨_, rfl⟩
                rw [← ers2]
                have hrs2 : uw rs2 = (uv qr + uv (ga 0)) * 4294967296 + uv (g 3) := by rw [ers2, uw_rs, f2]
                refine K.lstore #[oA a, oA b, oA q, oI (0 : Int32), oI (Int32.ofNat s), oI (2 : Int32), oA dv, oA rm, oI (Int32.ofNat 4), oI (3 : Int32), oA qa, oI (ga 0), oJ D, oT, oI (ga 1), oI (1 : Int32), oI (qh + (-1)), oI qz, oI sk, oI (g 1), oI (g 1 + (-2147483648 : Int32)), oI (g 2), oJ (((g 3).toInt64) &&& (4294967295 : Int64)), oT, oJ rs2, oT, oJ es2, oT] dDM_724 rfl ?_
                refine K.aloadN dDM_726 rfl rfl ?_
                refine K.lload dDM_727 rfl ?_
                refine K.lload dDM_729 rfl ?_
                refine K.callP (a := a) [.long es2, .long rs2] [] 0 4 13 dDM_731 (wd265 hw) (wd267 hw) (wd268 hw) (wd266 hw) (wd152 hw) (wd269 hw) (by decide) (rmUC l Z a0 hw a es2 rs2 h1 n0) ea rfl (lenOf pd_20 rfl) rfl (Nat.le_of_eq rfl) (by decide) (by decide) rfl rfl (by decide) (by decide) (goP ?_)
                refine K.if_eq dDM_734 (fun hc339 => ?_) (fun hc339 => ?_)
                · exact J335 _ _ (.val (.long (((g 3).toInt64) &&& (4294967295 : Int64)))) .second (.val (.long rs2)) .second (.val (.long es2)) .second (k3 (Or.inr (uc_0 hes2 hrs2 hc339))) (g2J _) (g2J _) (g2J _)
                · refine K.iinc ((qh + (-1)) + (-1)) #[oA a, oA b, oA q, oI (0 : Int32), oI (Int32.ofNat s), oI (2 : Int32), oA dv, oA rm, oI (Int32.ofNat 4), oI (3 : Int32), oA qa, oI (ga 0), oJ D, oT, oI (ga 1), oI (1 : Int32), oI ((qh + (-1)) + (-1)), oI qz, oI sk, oI (g 1), oI (g 1 + (-2147483648 : Int32)), oI (g 2), oJ (((g 3).toInt64) &&& (4294967295 : Int64)), oT, oJ rs2, oT, oJ es2, oT] dDM_737 rfl rfl rfl ?_
                  exact J335 _ _ (.val (.long (((g 3).toInt64) &&& (4294967295 : Int64)))) .second (.val (.long rs2)) .second (.val (.long es2)) .second (k4 f1 (uc_1 hes2 hrs2 hc339)) (g2J _) (g2J _) (g2J _)
          · exact J335 _ _ t22 t23 t24 t25 s26 s27 (dg_skip hdh hinv hQR hc336) y22 y24 p26
        intro qf q2 t22 t23 t24 t25 t26 t27 hDG y22 y24 y26
        refine K.aload dDM_740 rfl rfl ?_
        refine K.getF dDM_742 (wd160 hw) fr2 ?_
        refine K.iload dDM_745 rfl ?_
        refine K.aload dDM_747 rfl rfl ?_
        refine K.getF dDM_749 (wd158 hw) fr1 ?_
        refine K.iadd dDM_752 ?_
        show Wk E h1 4 13 753 #[oA a, oA b, oA q, oI (0 : Int32), oI (Int32.ofNat s), oI (2 : Int32), oA dv, oA rm, oI (Int32.ofNat 4), oI (3 : Int32), oA qa, oI (ga 0), oJ D, oT, oI (ga 1), oI (1 : Int32), oI qf, oI q2, oI sk, oI (g 1), oI (g 1 + (-2147483648 : Int32)), oI (g 2), t22, t23, t24, t25, t26, t27] [.int (Int32.ofNat 1), .ref ra]
        refine K.iconst (0 : Int32) dDM_753 rfl ?_
        refine K.iastore dDM_754 ar (by decide) (by decide) gra (fun h340 W341 A342 => ?_)
        have K343 := kk.wr W341 (Or.inr sra)
        have E344 := ea.wr W341
        have F345 := fr1.other W341 (Or.inl n2)
        have F346 := fr2.other W341 (Or.inl n2)
        have I347 := av.other W341 (Ne.symm n1)
        have E348 := xq.wr W341
        have F349 := fq1.other W341 (Or.inl n6)
        have F350 := fq2.other W341 (Or.inl n6)
        have F351 := fq3.other W341 (Or.inl n6)
        have I352 := aq.other W341 n4
        have A353 := A342.congr (own_upd g (c := 1) (by decide) 0 _)
        refine K.aloadN dDM_755 rfl rfl ?_
        refine K.aload dDM_756 rfl rfl ?_
        refine K.getF dDM_758 (wd160 hw) F346 ?_
        refine K.aload dDM_761 rfl rfl ?_
        refine K.iload dDM_763 rfl ?_
        refine K.iload dDM_765 rfl ?_
        refine K.iload dDM_767 rfl ?_
        refine K.aload dDM_769 rfl rfl ?_
        refine K.getF dDM_771 (wd158 hw) F345 ?_
        refine K.iadd dDM_774 ?_
        show Wk E h340 4 13 775 #[oA a, oA b, oA q, oI (0 : Int32), oI (Int32.ofNat s), oI (2 : Int32), oA dv, oA rm, oI (Int32.ofNat 4), oI (3 : Int32), oA qa, oI (ga 0), oJ D, oT, oI (ga 1), oI (1 : Int32), oI qf, oI q2, oI sk, oI (g 1), oI (g 1 + (-2147483648 : Int32)), oI (g 2), t22, t23, t24, t25, t26, t27] [.int (Int32.ofNat 1), .int 2, .int qf, .ref dv, .ref ra, .ref a]
        refine K.callP (a := a) [.ref ra, .ref dv, .int qf, .int 2, .int (Int32.ofNat 1)] [] 0 4 13 dDM_775 (wd271 hw) (wd273 hw) (wd274 hw) (wd272 hw) (wd152 hw) (wd275 hw) (by decide) (rmMS l Z a0 hw a ra dv (upd g 1 0) ga qf 1 h340 n0 A353 I347 gra n1 (by decide)) E344 rfl (lenOf pd_19 rfl) rfl (Nat.le_of_eq rfl) (by decide) (by decide) rfl rfl (by decide) (by decide) (goI fun z354 h355 q356 => ?_)
        obtain ⟨K357, wa358, wb359, cc360, A361, e362, e363, e364, e365⟩ := q356
        have K366 := K343.trans K357 (allS (Or.inr sra) all0)
        have E367 := E344.keep K357
        have F368 := F345.keep K357 (ninS n2 nin0)
        have F369 := F346.keep K357 (ninS n2 nin0)
        have I370 := I347.keep K357 (ninS (Ne.symm n1) nin0)
        have E371 := E348.keep K357
        have F372 := F349.keep K357 (ninS n6 nin0)
        have F373 := F350.keep K357 (ninS n6 nin0)
        have F374 := F351.keep K357 (ninS n6 nin0)
        have I375 := I352.keep K357 (ninS n4 nin0)
        refine K.istore #[oA a, oA b, oA q, oI (0 : Int32), oI (Int32.ofNat s), oI (2 : Int32), oA dv, oA rm, oI (Int32.ofNat 4), oI (3 : Int32), oA qa, oI (ga 0), oJ D, oT, oI (ga 1), oI (1 : Int32), oI qf, oI q2, oI sk, oI (g 1), oI (g 1 + (-2147483648 : Int32)), oI (g 2), oI z354, oU, t24, t25, t26, t27] dDM_778 (by rcases y22 with ⟨z_, rfl, rfl⟩ | ⟨rfl, rfl | ⟨z_, rfl⟩⟩ <;> rfl) ?_
        obtain ⟨ez, el, en⟩ := ms_end hDG e362 e363 e364 e365
        refine K.iload dDM_780 rfl ?_
        refine K.ldcI dDM_782 (wd261 hw) ?_
        refine K.iadd dDM_784 ?_
        refine K.iload dDM_785 rfl ?_
        refine K.ic_le dDM_787 (fun u => absurd u (own_nle _ _ ez)) (fun _ => ?_)
        refine K.aload dDM_815 rfl rfl ?_
        refine K.iload dDM_817 rfl ?_
        show Wk E h355 4 13 819 #[oA a, oA b, oA q, oI (0 : Int32), oI (Int32.ofNat s), oI (2 : Int32), oA dv, oA rm, oI (Int32.ofNat 4), oI (3 : Int32), oA qa, oI (ga 0), oJ D, oT, oI (ga 1), oI (1 : Int32), oI qf, oI q2, oI sk, oI (g 1), oI (g 1 + (-2147483648 : Int32)), oI (g 2), oI z354, oU, t24, t25, t26, t27] [.int (Int32.ofNat 1), .ref qa]
        refine K.iload dDM_819 rfl ?_
        refine K.iastore dDM_821 I375 (by decide) (by decide) gqa (fun h376 W377 A378 => ?_)
        have K379 := K366.wr W377 (Or.inr sqa)
        have E380 := E367.wr W377
        have F381 := F368.other W377 (Or.inl n3)
        have F382 := F369.other W377 (Or.inl n3)
        have I383 := I370.other W377 n5
        have E384 := E371.wr W377
        have F385 := F372.other W377 (Or.inl n7)
        have F386 := F373.other W377 (Or.inl n7)
        have F387 := F374.other W377 (Or.inl n7)
        have I388 := A361.other W377 (Ne.symm n4)
        have A389 := A378.congr (own_upd gq (c := 1) (by decide) qf _)
        refine K.iinc ((2 : Int32)) #[oA a, oA b, oA q, oI (0 : Int32), oI (Int32.ofNat s), oI (2 : Int32), oA dv, oA rm, oI (Int32.ofNat 4), oI (3 : Int32), oA qa, oI (ga 0), oJ D, oT, oI (ga 1), oI (2 : Int32), oI qf, oI q2, oI sk, oI (g 1), oI (g 1 + (-2147483648 : Int32)), oI (g 2), oI z354, oU, t24, t25, t26, t27] dDM_822 rfl rfl rfl ?_
        refine K.goto dDM_825 ?_
        have hor2 : ¬ gq 0 = 0 ∨ ¬ qf = 0 := hor.imp id fun u => fun e => by
          have z0 : uv (0 : Int32) = 0 := rfl
          have hDG := hDG.2
          rw [e, z0] at hDG
          omega
        exact J2 h376 dv ra rm qa s (upd (upd (upd g 1 0) (1 + 2) wb359) (1 + 1) wa358) (upd gq 1 qf) ga D qf q2 sk (g 1) (g 1 + (-2147483648 : Int32)) (g 2) (.val (.int z354)) .unset t24 t25 t26 t27 (g2I _) y24 y26 E380 F381 F382 I383 I388 E384 F385 F386 F387 A389 K379 gra gqa sra sqa n1 n2 n3 n4 n5 n6 n7 n8 n9 n10 hdh hD el hor2
  have J0 : ∀ (h1 : Heap) (dv ra rm qa : Addr) (s : Nat) (g gq ga : Nat → Int32) (D : Int64), Exa Z h1 a "java/math/MutableBigInteger" → Fld Z h1 rm "java/math/MutableBigInteger" "offset" "I" (.int 0) → Fld Z h1 rm "java/math/MutableBigInteger" "value" "[I" (.ref ra) → Ia Z h1 dv .int (Int32.ofNat 2) (intF ga) → Ia Z h1 ra .int (Int32.ofNat 5) (intF g) → Exa Z h1 q "java/math/MutableBigInteger" → Fld Z h1 q "java/math/MutableBigInteger" "offset" "I" (.int 0) → Fld Z h1 q "java/math/MutableBigInteger" "value" "[I" (.ref qa) → Fld Z h1 q "java/math/MutableBigInteger" "intLen" "I" (.int 3) → Ia Z h1 qa .int (Int32.ofNat 3) (intF gq) → Keep h h1 [q] → n0 ≤ ra → n0 ≤ qa → h.size ≤ ra → h.size ≤ qa → ra ≠ dv → rm ≠ ra → rm ≠ qa → qa ≠ ra → dv ≠ qa → q ≠ ra → q ≠ qa → rm ≠ q → dv ≠ q → ra ≠ q → 2147483648 ≤ uv (ga 0) → D.toInt = uv (ga 0) → g 0 = 0 → 1 ≤ uv (g 1) → gq 0 = 0 → Wk E h1 4 13 423 #[oA a, oA b, oA q, oI (0 : Int32), oI (Int32.ofNat s), oI (2 : Int32), oA dv, oA rm, oI (Int32.ofNat 4), oI (3 : Int32), oA qa, oI (ga 0), oJ D, oT, oI (ga 1), oI (0 : Int32), oU, oU, oU, oU, oU, oU, oU, oU, oU, oU, oU, oU] [] := by
    as_aux_lemma =>
      intro h1 dv ra rm qa s g gq ga D ea fr1 fr2 av ar xq fq1 fq2 fq3 aq kk gra gqa sra sqa n1 n2 n3 n4 n5 n6 n7 n8 n9 n10 hdh hD hg0 hg1 hq_
      refine K.iload dDM_423 rfl ?_
      refine K.iload dDM_425 rfl ?_
      refine K.iconst (1 : Int32) dDM_427 rfl ?_
      refine K.isub dDM_428 ?_
      refine K.ic_ge dDM_429 (fun _ => ?_) (fun u => absurd (by decide) u)
      refine K.iconst (0 : Int32) dDM_432 rfl ?_
      refine K.istore #[oA a, oA b, oA q, oI (0 : Int32), oI (Int32.ofNat s), oI (2 : Int32), oA dv, oA rm, oI (Int32.ofNat 4), oI (3 : Int32), oA qa, oI (ga 0), oJ D, oT, oI (ga 1), oI (0 : Int32), oI (0 : Int32), oU, oU, oU, oU, oU, oU, oU, oU, oU, oU, oU] dDM_433 rfl ?_
      refine K.iconst (0 : Int32) dDM_435 rfl ?_
      refine K.istore #[oA a, oA b, oA q, oI (0 : Int32), oI (Int32.ofNat s), oI (2 : Int32), oA dv, oA rm, oI (Int32.ofNat 4), oI (3 : Int32), oA qa, oI (ga 0), oJ D, oT, oI (ga 1), oI (0 : Int32), oI (0 : Int32), oI (0 : Int32), oU, oU, oU, oU, oU, oU, oU, oU, oU, oU] dDM_436 rfl ?_
      refine K.iconst (0 : Int32) dDM_438 rfl ?_
      refine K.istore #[oA a, oA b, oA q, oI (0 : Int32), oI (Int32.ofNat s), oI (2 : Int32), oA dv, oA rm, oI (Int32.ofNat 4), oI (3 : Int32), oA qa, oI (ga 0), oJ D, oT, oI (ga 1), oI (0 : Int32), oI (0 : Int32), oI (0 : Int32), oI (0 : Int32), oU, oU, oU, oU, oU, oU, oU, oU, oU] dDM_439 rfl ?_
      refine K.aload dDM_441 rfl rfl ?_
      refine K.getF dDM_443 (wd160 hw) fr2 ?_
      refine K.iload dDM_446 rfl ?_
      refine K.aload dDM_448 rfl rfl ?_
      refine K.getF dDM_450 (wd158 hw) fr1 ?_
      refine K.iadd dDM_453 ?_
      show Wk E h1 4 13 454 #[oA a, oA b, oA q, oI (0 : Int32), oI (Int32.ofNat s), oI (2 : Int32), oA dv, oA rm, oI (Int32.ofNat 4), oI (3 : Int32), oA qa, oI (ga 0), oJ D, oT, oI (ga 1), oI (0 : Int32), oI (0 : Int32), oI (0 : Int32), oI (0 : Int32), oU, oU, oU, oU, oU, oU, oU, oU, oU] [.int (Int32.ofNat 0), .ref ra]
      refine K.iaload (v := .int (g 0)) dDM_454 ar (by decide) (by decide) rfl ?_
      refine K.istore #[oA a, oA b, oA q, oI (0 : Int32), oI (Int32.ofNat s), oI (2 : Int32), oA dv, oA rm, oI (Int32.ofNat 4), oI (3 : Int32), oA qa, oI (ga 0), oJ D, oT, oI (ga 1), oI (0 : Int32), oI (0 : Int32), oI (0 : Int32), oI (0 : Int32), oI (g 0), oU, oU, oU, oU, oU, oU, oU, oU] dDM_455 rfl ?_
      refine K.iload dDM_457 rfl ?_
      refine K.ldcI dDM_459 (wd261 hw) ?_
      refine K.iadd dDM_461 ?_
      refine K.istore #[oA a, oA b, oA q, oI (0 : Int32), oI (Int32.ofNat s), oI (2 : Int32), oA dv, oA rm, oI (Int32.ofNat 4), oI (3 : Int32), oA qa, oI (ga 0), oJ D, oT, oI (ga 1), oI (0 : Int32), oI (0 : Int32), oI (0 : Int32), oI (0 : Int32), oI (g 0), oI ((g 0) + (-2147483648 : Int32)), oU, oU, oU, oU, oU, oU, oU] dDM_462 rfl ?_
      refine K.aload dDM_464 rfl rfl ?_
      refine K.getF dDM_466 (wd160 hw) fr2 ?_
      refine K.iload dDM_469 rfl ?_
      refine K.iconst (1 : Int32) dDM_471 rfl ?_
      refine K.iadd dDM_472 ?_
      refine K.aload dDM_473 rfl rfl ?_
      refine K.getF dDM_475 (wd158 hw) fr1 ?_
      refine K.iadd dDM_478 ?_
      show Wk E h1 4 13 479 #[oA a, oA b, oA q, oI (0 : Int32), oI (Int32.ofNat s), oI (2 : Int32), oA dv, oA rm, oI (Int32.ofNat 4), oI (3 : Int32), oA qa, oI (ga 0), oJ D, oT, oI (ga 1), oI (0 : Int32), oI (0 : Int32), oI (0 : Int32), oI (0 : Int32), oI (g 0), oI ((g 0) + (-2147483648 : Int32)), oU, oU, oU, oU, oU, oU, oU] [.int (Int32.ofNat 1), .ref ra]
      refine K.iaload (v := .int (g 1)) dDM_479 ar (by decide) (by decide) rfl ?_
      refine K.istore #[oA a, oA b, oA q, oI (0 : Int32), oI (Int32.ofNat s), oI (2 : Int32), oA dv, oA rm, oI (Int32.ofNat 4), oI (3 : Int32), oA qa, oI (ga 0), oJ D, oT, oI (ga 1), oI (0 : Int32), oI (0 : Int32), oI (0 : Int32), oI (0 : Int32), oI (g 0), oI ((g 0) + (-2147483648 : Int32)), oI (g 1), oU, oU, oU, oU, oU, oU] dDM_480 rfl ?_
      refine K.iload dDM_482 rfl ?_
      refine K.iload dDM_484 rfl ?_
      have hinv : uv (g 0) * 4294967296 + uv (g 1) < uv (ga 0) * 4294967296 + uv (ga 1) := own_dm0 hg0 hdh (uv_rng (ga 1)).1
      have rh := uv_rng (g 0)
      have rm_ := uv_rng (g 1)
      have rl := uv_rng (g 2)
      have rdh := uv_rng (ga 0)
      have rdl := uv_rng (ga 1)
      refine cut (P := ∀ (qh qr sk : Int32) (t22 t23 t24 t25 : Slot), QR (g 0) (g 1) (ga 0) qh qr sk → G2 t22 t23 → G2 t24 t25 → Wk E h1 4 13 591 #[oA a, oA b, oA q, oI (0 : Int32), oI (Int32.ofNat s), oI (2 : Int32), oA dv, oA rm, oI (Int32.ofNat 4), oI (3 : Int32), oA qa, oI (ga 0), oJ D, oT, oI (ga 1), oI (0 : Int32), oI qh, oI qr, oI sk, oI (g 0), oI (g 0 + (-2147483648 : Int32)), oI (g 1), t22, t23, t24, t25, oU, oU] []) (fun J390 => ?_) ?_
      · refine K.ic_ne dDM_486 (fun hc391 => ?_) (fun hc391 => ?_)
        · refine K.iconst (-1 : Int32) dDM_489 rfl ?_
          refine K.istore #[oA a, oA b, oA q, oI (0 : Int32), oI (Int32.ofNat s), oI (2 : Int32), oA dv, oA rm, oI (Int32.ofNat 4), oI (3 : Int32), oA qa, oI (ga 0), oJ D, oT, oI (ga 1), oI (0 : Int32), oI (-1 : Int32), oI (0 : Int32), oI (0 : Int32), oI (g 0), oI ((g 0) + (-2147483648 : Int32)), oI (g 1), oU, oU, oU, oU, oU, oU] dDM_490 rfl ?_
          refine K.iload dDM_492 rfl ?_
          refine K.iload dDM_494 rfl ?_
          refine K.iadd dDM_496 ?_
          refine K.istore #[oA a, oA b, oA q, oI (0 : Int32), oI (Int32.ofNat s), oI (2 : Int32), oA dv, oA rm, oI (Int32.ofNat 4), oI (3 : Int32), oA qa, oI (ga 0), oJ D, oT, oI (ga 1), oI (0 : Int32), oI (-1 : Int32), oI ((g 0) + (g 1)), oI (0 : Int32), oI (g 0), oI ((g 0) + (-2147483648 : Int32)), oI (g 1), oU, oU, oU, oU, oU, oU] dDM_497 rfl ?_
          refine K.iload dDM_499 rfl ?_
          refine K.ldcI dDM_501 (wd261 hw) ?_
          refine K.iadd dDM_503 ?_
          refine K.iload dDM_504 rfl ?_
          refine cut (P := ∀ z392 : Int32, z392 = (if (((g 0) + (g 1)) + (-2147483648 : Int32)) < ((g 0) + (-2147483648 : Int32)) then 1 else 0) → Wk E h1 4 13 514 #[oA a, oA b, oA q, oI (0 : Int32), oI (Int32.ofNat s), oI (2 : Int32), oA dv, oA rm, oI (Int32.ofNat 4), oI (3 : Int32), oA qa, oI (ga 0), oJ D, oT, oI (ga 1), oI (0 : Int32), oI (-1 : Int32), oI ((g 0) + (g 1)), oI (0 : Int32), oI (g 0), oI ((g 0) + (-2147483648 : Int32)), oI (g 1), oU, oU, oU, oU, oU, oU] [.int z392]) (fun J393 => ?_) ?_
          · refine K.ic_ge dDM_506 (fun hc394 => ?_) (fun hc394 => ?_)
            · refine K.iconst (1 : Int32) dDM_509 rfl ?_
              refine K.goto dDM_510 ?_
              exact J393 _ (if_pos hc394).symm
            · refine K.iconst (0 : Int32) dDM_513 rfl ?_
              exact J393 _ (if_neg hc394).symm
          intro z392 hz392
          refine K.istore #[oA a, oA b, oA q, oI (0 : Int32), oI (Int32.ofNat s), oI (2 : Int32), oA dv, oA rm, oI (Int32.ofNat 4), oI (3 : Int32), oA qa, oI (ga 0), oJ D, oT, oI (ga 1), oI (0 : Int32), oI (-1 : Int32), oI ((g 0) + (g 1)), oI z392, oI (g 0), oI ((g 0) + (-2147483648 : Int32)), oI (g 1), oU, oU, oU, oU, oU, oU] dDM_514 rfl ?_
          refine K.goto dDM_516 ?_
          exact J390 _ _ _ .unset .unset .unset .unset (qr_eq hc391 hz392) g2U g2U 
        · have hlt := own_nlt hinv hc391
          refine K.iload dDM_519 rfl ?_
          refine K.i2l dDM_521 ?_
          refine K.bipush (32 : Int32) dDM_522 rfl ?_
          refine K.lshl dDM_524 ?_
          refine K.iload dDM_525 rfl ?_
          refine K.i2l dDM_527 ?_
          refine K.ldc2J dDM_528 (wd187 hw) ?_
          refine K.land dDM_531 ?_
          refine K.lor dDM_532 ?_
          obtain ⟨ck, eck⟩ : ∃ x_ : Int64, x_ = (((g 0).toInt64) <<< ((32 : Int32) &&& 63).toInt64) ||| (((g 1).toInt64) &&& (4294967295 : Int64)) := ⟨_, rfl⟩
          rw [← eck]
          have hck : uw ck = uv (g 0) * 4294967296 + uv (g 1) := by rw [eck]; exact uw_chunk _ _
          refine K.lstore #[oA a, oA b, oA q, oI (0 : Int32), oI (Int32.ofNat s), oI (2 : Int32), oA dv, oA rm, oI (Int32.ofNat 4), oI (3 : Int32), oA qa, oI (ga 0), oJ D, oT, oI (ga 1), oI (0 : Int32), oI (0 : Int32), oI (0 : Int32), oI (0 : Int32), oI (g 0), oI ((g 0) + (-2147483648 : Int32)), oI (g 1), oJ ck, oT, oU, oU, oU, oU] dDM_533 rfl ?_
          refine K.lload dDM_535 rfl ?_
          refine K.lconst (0 : Int64) dDM_537 rfl ?_
          refine K.lc_lt dDM_538 dDM_539 (fun hc395 => ?_) (fun hc395 => ?_)
          · refine K.lload dDM_565 rfl ?_
            refine K.iload dDM_567 rfl ?_
            refine K.callS [.long ck, .int (ga 0)] [] 0 4 13 dDM_569 (wd262 hw) (wd263 hw) (wd152 hw) (wd264 hw) (by decide) (rmDW l Z a0 hw ck (ga 0) h1 n0 hdh (by rw [hck]; exact hlt)) rfl (lenOf pd_18 rfl) rfl (Nat.le_of_eq rfl) (by decide) (by decide) rfl rfl (by decide) (by decide) (goJs fun z396 q397 => ?_)
            rw [hck] at q397
            have Q := own_qrw q397 (by omega) (by omega) hlt
            refine K.lstore #[oA a, oA b, oA q, oI (0 : Int32), oI (Int32.ofNat s), oI (2 : Int32), oA dv, oA rm, oI (Int32.ofNat 4), oI (3 : Int32), oA qa, oI (ga 0), oJ D, oT, oI (ga 1), oI (0 : Int32), oI (0 : Int32), oI (0 : Int32), oI (0 : Int32), oI (g 0), oI ((g 0) + (-2147483648 : Int32)), oI (g 1), oJ ck, oT, oJ z396, oT, oU, oU] dDM_572 rfl ?_
            refine K.lload dDM_574 rfl ?_
            refine K.ldc2J dDM_576 (wd187 hw) ?_
            refine K.land dDM_579 ?_
            refine K.l2i dDM_580 ?_
            obtain ⟨q_, eq_⟩ : ∃ x_ : Int32, x_ = (z396 &&& (4294967295 : Int64)).toInt32 := ⟨_, rfl⟩
            rw [← eq_]
            refine K.istore #[oA a, oA b, oA q, oI (0 : Int32), oI (Int32.ofNat s), oI (2 : Int32), oA dv, oA rm, oI (Int32.ofNat 4), oI (3 : Int32), oA qa, oI (ga 0), oJ D, oT, oI (ga 1), oI (0 : Int32), oI q_, oI (0 : Int32), oI (0 : Int32), oI (g 0), oI ((g 0) + (-2147483648 : Int32)), oI (g 1), oJ ck, oT, oJ z396, oT, oU, oU] dDM_581 rfl ?_
            refine K.lload dDM_583 rfl ?_
            refine K.bipush (32 : Int32) dDM_585 rfl ?_
            refine K.lushr dDM_587 ?_
            refine K.l2i dDM_588 ?_
            obtain ⟨r_, er_⟩ : ∃ x_ : Int32, x_ = ((z396.toUInt64 >>> ((32 : Int32) &&& 63).toInt64.toUInt64).toInt64).toInt32 := ⟨_, rfl⟩
            rw [← er_]
            rw [← eq_, ← er_] at Q
            refine K.istore #[oA a, oA b, oA q, oI (0 : Int32), oI (Int32.ofNat s), oI (2 : Int32), oA dv, oA rm, oI (Int32.ofNat 4), oI (3 : Int32), oA qa, oI (ga 0), oJ D, oT, oI (ga 1), oI (0 : Int32), oI q_, oI r_, oI (0 : Int32), oI (g 0), oI ((g 0) + (-2147483648 : Int32)), oI (g 1), oJ ck, oT, oJ z396, oT, oU, oU] dDM_589 rfl ?_
            exact J390 _ _ _ (.val (.long ck)) .second (.val (.long z396)) .second (qr_of rfl (by omega) Q.1 Q.2) (g2J _) (g2J _) 
          · have Q := own_qr hck hD (by omega) rdh.2 hc395 hlt
            refine K.lload dDM_542 rfl ?_
            refine K.lload dDM_544 rfl ?_
            refine K.ldiv dDM_546 (own_Dn hD (by omega)) ?_
            refine K.l2i dDM_547 ?_
            obtain ⟨q_, eq_⟩ : ∃ x_ : Int32, x_ = (ck / D).toInt32 := ⟨_, rfl⟩
            rw [← eq_]
            rw [← eq_] at Q
            refine K.istore #[oA a, oA b, oA q, oI (0 : Int32), oI (Int32.ofNat s), oI (2 : Int32), oA dv, oA rm, oI (Int32.ofNat 4), oI (3 : Int32), oA qa, oI (ga 0), oJ D, oT, oI (ga 1), oI (0 : Int32), oI q_, oI (0 : Int32), oI (0 : Int32), oI (g 0), oI ((g 0) + (-2147483648 : Int32)), oI (g 1), oJ ck, oT, oU, oU, oU, oU] dDM_548 rfl ?_
            refine K.lload dDM_550 rfl ?_
            refine K.iload dDM_552 rfl ?_
            refine K.i2l dDM_554 ?_
            refine K.lload dDM_555 rfl ?_
            refine K.lmul dDM_557 ?_
            refine K.lsub dDM_558 ?_
            refine K.l2i dDM_559 ?_
            obtain ⟨r_, er_⟩ : ∃ x_ : Int32, x_ = (ck - (q_.toInt64 * D)).toInt32 := ⟨_, rfl⟩
            rw [← er_]
            rw [← er_] at Q
            refine K.istore #[oA a, oA b, oA q, oI (0 : Int32), oI (Int32.ofNat s), oI (2 : Int32), oA dv, oA rm, oI (Int32.ofNat 4), oI (3 : Int32), oA qa, oI (ga 0), oJ D, oT, oI (ga 1), oI (0 : Int32), oI q_, oI r_, oI (0 : Int32), oI (g 0), oI ((g 0) + (-2147483648 : Int32)), oI (g 1), oJ ck, oT, oU, oU, oU, oU] dDM_560 rfl ?_
            refine K.goto dDM_562 ?_
            exact J390 _ _ _ (.val (.long ck)) .second .unset .unset (qr_of rfl (by omega) Q.1 Q.2) (g2J _) g2U 
      intro qh qr sk t22 t23 t24 t25 hQR y22 y24
      refine K.iload dDM_591 rfl ?_
      refine K.if_ne dDM_593 (fun hc398 => ?_) (fun hc398 => ?_)
      · rw [hc398] at hQR
        obtain ⟨e1, e2, e3⟩ := qr_zero (nl := (g 2)) (dl := ga 1) hdh hQR
        refine K.goto dDM_596 ?_
        refine K.iinc ((1 : Int32)) #[oA a, oA b, oA q, oI (0 : Int32), oI (Int32.ofNat s), oI (2 : Int32), oA dv, oA rm, oI (Int32.ofNat 4), oI (3 : Int32), oA qa, oI (ga 0), oJ D, oT, oI (ga 1), oI (1 : Int32), oI qh, oI qr, oI sk, oI (g 0), oI (g 0 + (-2147483648 : Int32)), oI (g 1), t22, t23, t24, t25, oU, oU] dDM_822 rfl rfl rfl ?_
        refine K.goto dDM_825 ?_
        exact J1 h1 dv ra rm qa s g gq ga D qh qr sk (g 0) (g 0 + (-2147483648 : Int32)) (g 1) t22 t23 t24 t25 .unset .unset y22 y24 g2U ea fr1 fr2 av ar xq fq1 fq2 fq3 aq kk gra gqa sra sqa n1 n2 n3 n4 n5 n6 n7 n8 n9 n10 hdh hD e3 (Or.inr (by omega))
      · refine K.iload dDM_599 rfl ?_
        refine cut (P := ∀ (qf q2 : Int32) (t22 t23 t24 t25 t26 t27 : Slot), DG (g 0) (g 1) (g 2) (ga 0) (ga 1) qf → G2 t22 t23 → G2 t24 t25 → G2 t26 t27 → Wk E h1 4 13 740 #[oA a, oA b, oA q, oI (0 : Int32), oI (Int32.ofNat s), oI (2 : Int32), oA dv, oA rm, oI (Int32.ofNat 4), oI (3 : Int32), oA qa, oI (ga 0), oJ D, oT, oI (ga 1), oI (0 : Int32), oI qf, oI q2, oI sk, oI (g 0), oI (g 0 + (-2147483648 : Int32)), oI (g 1), t22, t23, t24, t25, t26, t27] []) (fun J399 => ?_) ?_
        · refine K.if_ne dDM_601 (fun hc400 => ?_) (fun hc400 => ?_)
          · refine K.aload dDM_604 rfl rfl ?_
            refine K.getF dDM_606 (wd160 hw) fr2 ?_
            refine K.iload dDM_609 rfl ?_
            refine K.iconst (2 : Int32) dDM_611 rfl ?_
            refine K.iadd dDM_612 ?_
            refine K.aload dDM_613 rfl rfl ?_
            refine K.getF dDM_615 (wd158 hw) fr1 ?_
            refine K.iadd dDM_618 ?_
            show Wk E h1 4 13 619 #[oA a, oA b, oA q, oI (0 : Int32), oI (Int32.ofNat s), oI (2 : Int32), oA dv, oA rm, oI (Int32.ofNat 4), oI (3 : Int32), oA qa, oI (ga 0), oJ D, oT, oI (ga 1), oI (0 : Int32), oI qh, oI qr, oI sk, oI (g 0), oI (g 0 + (-2147483648 : Int32)), oI (g 1), t22, t23, t24, t25, oU, oU] [.int (Int32.ofNat 2), .ref ra]
            refine K.iaload (v := .int (g 2)) dDM_619 ar (by decide) (by decide) rfl ?_
            refine K.i2l dDM_620 ?_
            refine K.ldc2J dDM_621 (wd187 hw) ?_
            refine K.land dDM_624 ?_
            refine K.lstore #[oA a, oA b, oA q, oI (0 : Int32), oI (Int32.ofNat s), oI (2 : Int32), oA dv, oA rm, oI (Int32.ofNat 4), oI (3 : Int32), oA qa, oI (ga 0), oJ D, oT, oI (ga 1), oI (0 : Int32), oI qh, oI qr, oI sk, oI (g 0), oI (g 0 + (-2147483648 : Int32)), oI (g 1), oJ (((g 2).toInt64) &&& (4294967295 : Int64)), oT, t24, t25, oU, oU] dDM_625 (by rcases y22 with ⟨z_, rfl, rfl⟩ | ⟨rfl, rfl | ⟨z_, rfl⟩⟩ <;> rfl) ?_
            refine K.iload dDM_627 rfl ?_
            refine K.i2l dDM_629 ?_
            refine K.ldc2J dDM_630 (wd187 hw) ?_
            refine K.land dDM_633 ?_
            refine K.bipush (32 : Int32) dDM_634 rfl ?_
            refine K.lshl dDM_636 ?_
            refine K.lload dDM_637 rfl ?_
            refine K.lor dDM_639 ?_
            obtain ⟨rs, ers⟩ : ∃ x_ : Int64, x_ = ((qr.toInt64 &&& (4294967295 : Int64)) <<< ((32 : Int32) &&& 63).toInt64) ||| (((g 2).toInt64) &&& (4294967295 : Int64)) := ⟨_, rfl⟩
            rw [← ers]
            have hrs : uw rs = uv qr * 4294967296 + uv (g 2) := by rw [ers]; exact uw_rs _ _
            refine K.lstore #[oA a, oA b, oA q, oI (0 : Int32), oI (Int32.ofNat s), oI (2 : Int32), oA dv, oA rm, oI (Int32.ofNat 4), oI (3 : Int32), oA qa, oI (ga 0), oJ D, oT, oI (ga 1), oI (0 : Int32), oI qh, oI qr, oI sk, oI (g 0), oI (g 0 + (-2147483648 : Int32)), oI (g 1), oJ (((g 2).toInt64) &&& (4294967295 : Int64)), oT, oJ rs, oT, oU, oU] dDM_640 (by rcases y24 with ⟨z_, rfl, rfl⟩ | ⟨rfl, rfl | ⟨z_, rfl⟩⟩ <;> rfl) ?_
            refine K.iload dDM_642 rfl ?_
            refine K.i2l dDM_644 ?_
            refine K.ldc2J dDM_645 (wd187 hw) ?_
            refine K.land dDM_648 ?_
            refine K.iload dDM_649 rfl ?_
            refine K.i2l dDM_651 ?_
            refine K.ldc2J dDM_652 (wd187 hw) ?_
            refine K.land dDM_655 ?_
            refine K.lmul dDM_656 ?_
            obtain ⟨es, ees⟩ : ∃ x_ : Int64, x_ = (((ga 1).toInt64) &&& (4294967295 : Int64)) * (qh.toInt64 &&& (4294967295 : Int64)) := ⟨_, rfl⟩
            rw [← ees]
            have hes : uw es = uv qh * uv (ga 1) := by rw [ees]; exact uw_est _ _
            refine K.lstore #[oA a, oA b, oA q, oI (0 : Int32), oI (Int32.ofNat s), oI (2 : Int32), oA dv, oA rm, oI (Int32.ofNat 4), oI (3 : Int32), oA qa, oI (ga 0), oJ D, oT, oI (ga 1), oI (0 : Int32), oI qh, oI qr, oI sk, oI (g 0), oI (g 0 + (-2147483648 : Int32)), oI (g 1), oJ (((g 2).toInt64) &&& (4294967295 : Int64)), oT, oJ rs, oT, oJ es, oT] dDM_657 rfl ?_
            refine K.aloadN dDM_659 rfl rfl ?_
            refine K.lload dDM_660 rfl ?_
            refine K.lload dDM_662 rfl ?_
            refine K.callP (a := a) [.long es, .long rs] [] 0 4 13 dDM_664 (wd265 hw) (wd267 hw) (wd268 hw) (wd266 hw) (wd152 hw) (wd269 hw) (by decide) (rmUC l Z a0 hw a es rs h1 n0) ea rfl (lenOf pd_20 rfl) rfl (Nat.le_of_eq rfl) (by decide) (by decide) rfl rfl (by decide) (by decide) (goP ?_)
            refine K.if_eq dDM_667 (fun hc401 => ?_) (fun hc401 => ?_)
            · exact J399 _ _ (.val (.long (((g 2).toInt64) &&& (4294967295 : Int64)))) .second (.val (.long rs)) .second (.val (.long es)) .second (dg_0 hdh hinv hQR hc400 (uc_0 hes hrs hc401)) (g2J _) (g2J _) (g2J _)
            · obtain ⟨k1, k2, k3, k4⟩ := dg_1 hdh hinv hQR hc400 (uc_1 hes hrs hc401)
              refine K.iinc (qh + (-1)) #[oA a, oA b, oA q, oI (0 : Int32), oI (Int32.ofNat s), oI (2 : Int32), oA dv, oA rm, oI (Int32.ofNat 4), oI (3 : Int32), oA qa, oI (ga 0), oJ D, oT, oI (ga 1), oI (0 : Int32), oI (qh + (-1)), oI qr, oI sk, oI (g 0), oI (g 0 + (-2147483648 : Int32)), oI (g 1), oJ (((g 2).toInt64) &&& (4294967295 : Int64)), oT, oJ rs, oT, oJ es, oT] dDM_670 rfl rfl rfl ?_
              refine K.iload dDM_673 rfl ?_
              refine K.i2l dDM_675 ?_
              refine K.ldc2J dDM_676 (wd187 hw) ?_
              refine K.land dDM_679 ?_
              refine K.lload dDM_680 rfl ?_
              refine K.ladd dDM_682 ?_
              refine K.l2i dDM_683 ?_
              obtain ⟨qz, eqz⟩ : ∃ x_ : Int32, x_ = ((qr.toInt64 &&& (4294967295 : Int64)) + D).toInt32 := ⟨_, rfl⟩
              rw [← eqz]
              have hqz : uv qz = (uv qr + uv (ga 0)) % 4294967296 := by rw [eqz]; exact own_q2 hD
              refine K.istore #[oA a, oA b, oA q, oI (0 : Int32), oI (Int32.ofNat s), oI (2 : Int32), oA dv, oA rm, oI (Int32.ofNat 4), oI (3 : Int32), oA qa, oI (ga 0), oJ D, oT, oI (ga 1), oI (0 : Int32), oI (qh + (-1)), oI qz, oI sk, oI (g 0), oI (g 0 + (-2147483648 : Int32)), oI (g 1), oJ (((g 2).toInt64) &&& (4294967295 : Int64)), oT, oJ rs, oT, oJ es, oT] dDM_684 rfl ?_
              refine K.iload dDM_686 rfl ?_
              refine K.i2l dDM_688 ?_
              refine K.ldc2J dDM_689 (wd187 hw) ?_
              refine K.land dDM_692 ?_
              refine K.lload dDM_693 rfl ?_
              refine K.lc_lt dDM_695 dDM_696 (fun hc402 => ?_) (fun hc402 => ?_)
              · exact J399 _ _ (.val (.long (((g 2).toInt64) &&& (4294967295 : Int64)))) .second (.val (.long rs)) .second (.val (.long es)) .second (k3 (Or.inl (own_q2lt hD hqz hc402))) (g2J _) (g2J _) (g2J _)
              · obtain ⟨f1, f2⟩ := own_q2ge hD hqz hc402
                refine K.lload dDM_699 rfl ?_
                refine K.iload dDM_701 rfl ?_
                refine K.i2l dDM_703 ?_
                refine K.ldc2J dDM_704 (wd187 hw) ?_
                refine K.land dDM_707 ?_
                refine K.lsub dDM_708 ?_
                obtain ⟨es2, ees2⟩ : ∃ x_ : Int64, x_ = es - (((ga 1).toInt64) &&& (4294967295 : Int64)) := ⟨_, rfl⟩
                rw [← ees2]
                have hes2 : uw es2 = uv qh * uv (ga 1) - uv (ga 1) := by rw [ees2]; exact uw_est2 _ hes k2
                refine K.lstore #[oA a, oA b, oA q, oI (0 : Int32), oI (Int32.ofNat s), oI (2 : Int32), oA dv, oA rm, oI (Int32.ofNat 4), oI (3 : Int32), oA qa, oI (ga 0), oJ D, oT, oI (ga 1), oI (0 : Int32), oI (qh + (-1)), oI qz, oI sk, oI (g 0), oI (g 0 + (-2147483648 : Int32)), oI (g 1), oJ (((g 2).toInt64) &&& (4294967295 : Int64)), oT, oJ rs, oT, oJ es2, oT] dDM_709 rfl ?_
                refine K.iload dDM_711 rfl ?_
                refine K.i2l dDM_713 ?_
                refine K.ldc2J dDM_714 (wd187 hw) ?_
                refine K.land dDM_717 ?_
                refine K.bipush (32 : Int32) dDM_718 rfl ?_
                refine K.lshl dDM_720 ?_
                refine K.lload dDM_721 rfl ?_
                refine K.lor dDM_723 ?_
                obtain ⟨rs2, ers2⟩ : ∃ x_ : Int64, x_ = ((qz.toInt64 &&& (4294967295 : Int64)) <<< ((32 : Int32) &&& 63).toInt64) ||| (((g 2).toInt64) &&& (4294967295 : Int64)) := ⟨_, rfl⟩
                rw [← ers2]
                have hrs2 : uw rs2 = (uv qr + uv (ga 0)) * 4294967296 + uv (g 2) := by rw [ers2, uw_rs, f2]
                refine K.lstore #[oA a, oA b, oA q, oI (0 : Int32), oI (Int32.ofNat s), oI (2 : Int32), oA dv, oA rm, oI (Int32.ofNat 4), oI (3 : Int32), oA qa, oI (ga 0), oJ D, oT, oI (ga 1), oI (0 : Int32), oI (qh + (-1)), oI qz, oI sk, oI (g 0), oI (g 0 + (-2147483648 : Int32)), oI (g 1), oJ (((g 2).toInt64) &&& (4294967295 : Int64)), oT, oJ rs2, oT, oJ es2, oT] dDM_724 rfl ?_
                refine K.aloadN dDM_726 rfl rfl ?_
                refine K.lload dDM_727 rfl ?_
                refine K.lload dDM_729 rfl ?_
                refine K.callP (a := a) [.long es2, .long rs2] [] 0 4 13 dDM_731 (wd265 hw) (wd267 hw) (wd268 hw) (wd266 hw) (wd152 hw) (wd269 hw) (by decide) (rmUC l Z a0 hw a es2 rs2 h1 n0) ea rfl (lenOf pd_20 rfl) rfl (Nat.le_of_eq rfl) (by decide) (by decide) rfl rfl (by decide) (by decide) (goP ?_)
                refine K.if_eq dDM_734 (fun hc403 => ?_) (fun hc403 => ?_)
                · exact J399 _ _ (.val (.long (((g 2).toInt64) &&& (4294967295 : Int64)))) .second (.val (.long rs2)) .second (.val (.long es2)) .second (k3 (Or.inr (uc_0 hes2 hrs2 hc403))) (g2J _) (g2J _) (g2J _)
                · refine K.iinc ((qh + (-1)) + (-1)) #[oA a, oA b, oA q, oI (0 : Int32), oI (Int32.ofNat s), oI (2 : Int32), oA dv, oA rm, oI (Int32.ofNat 4), oI (3 : Int32), oA qa, oI (ga 0), oJ D, oT, oI (ga 1), oI (0 : Int32), oI ((qh + (-1)) + (-1)), oI qz, oI sk, oI (g 0), oI (g 0 + (-2147483648 : Int32)), oI (g 1), oJ (((g 2).toInt64) &&& (4294967295 : Int64)), oT, oJ rs2, oT, oJ es2, oT] dDM_737 rfl rfl rfl ?_
                  exact J399 _ _ (.val (.long (((g 2).toInt64) &&& (4294967295 : Int64)))) .second (.val (.long rs2)) .second (.val (.long es2)) .second (k4 f1 (uc_1 hes2 hrs2 hc403)) (g2J _) (g2J _) (g2J _)
          · exact J399 _ _ t22 t23 t24 t25 .unset .unset (dg_skip hdh hinv hQR hc400) y22 y24 g2U
        intro qf q2 t22 t23 t24 t25 t26 t27 hDG y22 y24 y26
        refine K.aload dDM_740 rfl rfl ?_
        refine K.getF dDM_742 (wd160 hw) fr2 ?_
        refine K.iload dDM_745 rfl ?_
        refine K.aload dDM_747 rfl rfl ?_
        refine K.getF dDM_749 (wd158 hw) fr1 ?_
        refine K.iadd dDM_752 ?_
        show Wk E h1 4 13 753 #[oA a, oA b, oA q, oI (0 : Int32), oI (Int32.ofNat s), oI (2 : Int32), oA dv, oA rm, oI (Int32.ofNat 4), oI (3 : Int32), oA qa, oI (ga 0), oJ D, oT, oI (ga 1), oI (0 : Int32), oI qf, oI q2, oI sk, oI (g 0), oI (g 0 + (-2147483648 : Int32)), oI (g 1), t22, t23, t24, t25, t26, t27] [.int (Int32.ofNat 0), .ref ra]
        refine K.iconst (0 : Int32) dDM_753 rfl ?_
        refine K.iastore dDM_754 ar (by decide) (by decide) gra (fun h404 W405 A406 => ?_)
        have K407 := kk.wr W405 (Or.inr sra)
        have E408 := ea.wr W405
        have F409 := fr1.other W405 (Or.inl n2)
        have F410 := fr2.other W405 (Or.inl n2)
        have I411 := av.other W405 (Ne.symm n1)
        have E412 := xq.wr W405
        have F413 := fq1.other W405 (Or.inl n6)
        have F414 := fq2.other W405 (Or.inl n6)
        have F415 := fq3.other W405 (Or.inl n6)
        have I416 := aq.other W405 n4
        have A417 := A406.congr (own_upd g (c := 0) (by decide) 0 _)
        refine K.aloadN dDM_755 rfl rfl ?_
        refine K.aload dDM_756 rfl rfl ?_
        refine K.getF dDM_758 (wd160 hw) F410 ?_
        refine K.aload dDM_761 rfl rfl ?_
        refine K.iload dDM_763 rfl ?_
        refine K.iload dDM_765 rfl ?_
        refine K.iload dDM_767 rfl ?_
        refine K.aload dDM_769 rfl rfl ?_
        refine K.getF dDM_771 (wd158 hw) F409 ?_
        refine K.iadd dDM_774 ?_
        show Wk E h404 4 13 775 #[oA a, oA b, oA q, oI (0 : Int32), oI (Int32.ofNat s), oI (2 : Int32), oA dv, oA rm, oI (Int32.ofNat 4), oI (3 : Int32), oA qa, oI (ga 0), oJ D, oT, oI (ga 1), oI (0 : Int32), oI qf, oI q2, oI sk, oI (g 0), oI (g 0 + (-2147483648 : Int32)), oI (g 1), t22, t23, t24, t25, t26, t27] [.int (Int32.ofNat 0), .int 2, .int qf, .ref dv, .ref ra, .ref a]
        refine K.callP (a := a) [.ref ra, .ref dv, .int qf, .int 2, .int (Int32.ofNat 0)] [] 0 4 13 dDM_775 (wd271 hw) (wd273 hw) (wd274 hw) (wd272 hw) (wd152 hw) (wd275 hw) (by decide) (rmMS l Z a0 hw a ra dv (upd g 0 0) ga qf 0 h404 n0 A417 I411 gra n1 (by decide)) E408 rfl (lenOf pd_19 rfl) rfl (Nat.le_of_eq rfl) (by decide) (by decide) rfl rfl (by decide) (by decide) (goI fun z418 h419 q420 => ?_)
        obtain ⟨K421, wa422, wb423, cc424, A425, e426, e427, e428, e429⟩ := q420
        have K430 := K407.trans K421 (allS (Or.inr sra) all0)
        have E431 := E408.keep K421
        have F432 := F409.keep K421 (ninS n2 nin0)
        have F433 := F410.keep K421 (ninS n2 nin0)
        have I434 := I411.keep K421 (ninS (Ne.symm n1) nin0)
        have E435 := E412.keep K421
        have F436 := F413.keep K421 (ninS n6 nin0)
        have F437 := F414.keep K421 (ninS n6 nin0)
        have F438 := F415.keep K421 (ninS n6 nin0)
        have I439 := I416.keep K421 (ninS n4 nin0)
        refine K.istore #[oA a, oA b, oA q, oI (0 : Int32), oI (Int32.ofNat s), oI (2 : Int32), oA dv, oA rm, oI (Int32.ofNat 4), oI (3 : Int32), oA qa, oI (ga 0), oJ D, oT, oI (ga 1), oI (0 : Int32), oI qf, oI q2, oI sk, oI (g 0), oI (g 0 + (-2147483648 : Int32)), oI (g 1), oI z418, oU, t24, t25, t26, t27] dDM_778 (by rcases y22 with ⟨z_, rfl, rfl⟩ | ⟨rfl, rfl | ⟨z_, rfl⟩⟩ <;> rfl) ?_
        obtain ⟨ez, el, en⟩ := ms_end hDG e426 e427 e428 e429
        refine K.iload dDM_780 rfl ?_
        refine K.ldcI dDM_782 (wd261 hw) ?_
        refine K.iadd dDM_784 ?_
        refine K.iload dDM_785 rfl ?_
        refine K.ic_le dDM_787 (fun u => absurd u (own_nle _ _ ez)) (fun _ => ?_)
        refine K.aload dDM_815 rfl rfl ?_
        refine K.iload dDM_817 rfl ?_
        show Wk E h419 4 13 819 #[oA a, oA b, oA q, oI (0 : Int32), oI (Int32.ofNat s), oI (2 : Int32), oA dv, oA rm, oI (Int32.ofNat 4), oI (3 : Int32), oA qa, oI (ga 0), oJ D, oT, oI (ga 1), oI (0 : Int32), oI qf, oI q2, oI sk, oI (g 0), oI (g 0 + (-2147483648 : Int32)), oI (g 1), oI z418, oU, t24, t25, t26, t27] [.int (Int32.ofNat 0), .ref qa]
        refine K.iload dDM_819 rfl ?_
        refine K.iastore dDM_821 I439 (by decide) (by decide) gqa (fun h440 W441 A442 => ?_)
        have K443 := K430.wr W441 (Or.inr sqa)
        have E444 := E431.wr W441
        have F445 := F432.other W441 (Or.inl n3)
        have F446 := F433.other W441 (Or.inl n3)
        have I447 := I434.other W441 n5
        have E448 := E435.wr W441
        have F449 := F436.other W441 (Or.inl n7)
        have F450 := F437.other W441 (Or.inl n7)
        have F451 := F438.other W441 (Or.inl n7)
        have I452 := A425.other W441 (Ne.symm n4)
        have A453 := A442.congr (own_upd gq (c := 0) (by decide) qf _)
        refine K.iinc ((1 : Int32)) #[oA a, oA b, oA q, oI (0 : Int32), oI (Int32.ofNat s), oI (2 : Int32), oA dv, oA rm, oI (Int32.ofNat 4), oI (3 : Int32), oA qa, oI (ga 0), oJ D, oT, oI (ga 1), oI (1 : Int32), oI qf, oI q2, oI sk, oI (g 0), oI (g 0 + (-2147483648 : Int32)), oI (g 1), oI z418, oU, t24, t25, t26, t27] dDM_822 rfl rfl rfl ?_
        refine K.goto dDM_825 ?_
        have hor : ¬ qf = 0 ∨ 4294967296 ≤ uv wa422 * 4294967296 + uv wb423 := by
          by_cases u : qf = 0
          · refine Or.inr ?_
            have z0 : uv (0 : Int32) = 0 := rfl
            rw [u, z0, hg0, z0] at en
            omega
          · exact Or.inl u
        exact J1 h440 dv ra rm qa s (upd (upd (upd g 0 0) (0 + 2) wb423) (0 + 1) wa422) (upd gq 0 qf) ga D qf q2 sk (g 0) (g 0 + (-2147483648 : Int32)) (g 1) (.val (.int z418)) .unset t24 t25 t26 t27 (g2I _) y24 y26 E444 F445 F446 I447 I452 E448 F449 F450 F451 A453 K443 gra gqa sra sqa n1 n2 n3 n4 n5 n6 n7 n8 n9 n10 hdh hD el hor
  have K454 : Keep h h [q] := Keep.refl _ _
  have rd := uv_rng (gd 0)
  have rc := uv_rng (gc 0)
  have rc1 := uv_rng (gc 1)
  have rd1 := uv_rng (gd 1)
  have hd0 : 1 ≤ uv (gd 0) ∧ uv (gd 0) < 2147483648 := by rcases hT with ⟨-, t1, t2, t3⟩ | ⟨-, t1, t2⟩ <;> omega
  refine K.aloadN dDM_0 rfl rfl ?_
  refine K.getF dDM_1 (wd160 hw) B2 ?_
  refine K.aloadN dDM_4 rfl rfl ?_
  refine K.getF dDM_5 (wd158 hw) B1 ?_
  refine K.iaload (v := .int (gd 0)) dDM_8 BA (by decide) (by decide) rfl ?_
  refine K.callS [.int (gd 0)] [] 0 0 0 dDM_9 (wd188 hw) (wd82 hw) (wd83 hw) (wd84 hw) (by decide) (rmNI l Z a0 hw (gd 0) h n0) rfl (lenOf pd_6 rfl) rfl (Nat.le_of_eq rfl) (by decide) (by decide) rfl rfl (by decide) (by decide) (goIs fun z455 q456 => ?_)
  obtain ⟨k457, rfl, N458⟩ := q456
  obtain ⟨hs1, hs2, hs3, hs4⟩ := own_norm N458 hd0.1 hd0.2
  refine K.istore #[oA a, oA b, oA q, oI (0 : Int32), oI (Int32.ofNat k457), oU, oU, oU, oU, oU, oU, oU, oU, oU, oU, oU, oU, oU, oU, oU, oU, oU, oU, oU, oU, oU, oU, oU] dDM_12 rfl ?_
  refine K.aloadN dDM_14 rfl rfl ?_
  refine K.getF dDM_15 (wd162 hw) B3 ?_
  refine K.istore #[oA a, oA b, oA q, oI (0 : Int32), oI (Int32.ofNat k457), oI (Int32.ofNat 2), oU, oU, oU, oU, oU, oU, oU, oU, oU, oU, oU, oU, oU, oU, oU, oU, oU, oU, oU, oU, oU, oU] dDM_18 rfl ?_
  refine K.iload dDM_20 rfl ?_
  refine K.if_le dDM_22 (fun _ => ?_) (fun u => absurd ((own_lt (i := 0) (by decide) (by omega)).mpr (by omega)) u)
  refine K.iload dDM_25 rfl ?_
  refine K.newP (ty := .int) (dv := .int 0) 2 1 2 dDM_27 (wd109 hw) rfl rfl (by decide) (by decide) (by decide) rfl rfl (by decide) (by decide) (fun h460 a459 ha461 g462 X463 A464 => ?_)
  have ks_a459 := ha_ge K454.1 ha461
  have lt_a_a459 : a < a459 := by rw [ha461]; exact P1.lt
  have lt_b_a459 : b < a459 := by rw [ha461]; exact B1.lt
  have lt_c_a459 : c < a459 := by rw [ha461]; exact CA.lt
  have lt_mc_a459 : mc < a459 := by rw [ha461]; exact PA.lt
  have lt_md_a459 : md < a459 := by rw [ha461]; exact BA.lt
  have lt_q_a459 : q < a459 := by rw [ha461]; exact QE.lt
  have K465 := K454.ext X463
  have F466 := P1.ext X463
  have F467 := P2.ext X463
  have F468 := P3.ext X463
  have E469 := PE.ext X463
  have I470 := PA.ext X463
  have F471 := B1.ext X463
  have F472 := B2.ext X463
  have F473 := B3.ext X463
  have I474 := BA.ext X463
  have E475 := QE.ext X463
  have F476 := Q1.ext X463
  have F477 := Q2.ext X463
  have F478 := Q3.ext X463
  have I479 := CA.ext X463
  refine K.astore #[oA a, oA b, oA q, oI (0 : Int32), oI (Int32.ofNat k457), oI (Int32.ofNat 2), oA a459, oU, oU, oU, oU, oU, oU, oU, oU, oU, oU, oU, oU, oU, oU, oU, oU, oU, oU, oU, oU, oU] dDM_29 rfl rfl ?_
  refine K.aloadN dDM_31 rfl rfl ?_
  refine K.getF dDM_32 (wd160 hw) F472 ?_
  refine K.aloadN dDM_35 rfl rfl ?_
  refine K.getF dDM_36 (wd158 hw) F471 ?_
  refine K.iload dDM_39 rfl ?_
  refine K.aload dDM_41 rfl rfl ?_
  refine K.iconst (0 : Int32) dDM_43 rfl ?_
  refine K.iload dDM_44 rfl ?_
  refine K.callS [.ref md, .int 0, .int (Int32.ofNat 2), .ref a459, .int 0, .int (Int32.ofNat k457)] [] 0 1 2 dDM_46 (wd256 hw) (wd257 hw) (wd152 hw) (wd258 hw) (by decide) (rmCA2 l Z a0 hw md a459 k457 gd h460 n0 I474 A464 g462 (Nat.ne_of_gt lt_md_a459)) rfl (lenOf pd_21 rfl) rfl (Nat.le_of_eq rfl) (by decide) (by decide) rfl rfl (by decide) (by decide) (goU fun h480 q481 => ?_)
  obtain ⟨K482, A483⟩ := q481
  have K484 := K465.trans K482 (allS (Or.inr ks_a459) all0)
  have F485 := F466.keep K482 (ninS (Nat.ne_of_lt lt_a_a459) nin0)
  have F486 := F467.keep K482 (ninS (Nat.ne_of_lt lt_a_a459) nin0)
  have F487 := F468.keep K482 (ninS (Nat.ne_of_lt lt_a_a459) nin0)
  have E488 := E469.keep K482
  have I489 := I470.keep K482 (ninS (Nat.ne_of_lt lt_mc_a459) nin0)
  have F490 := F471.keep K482 (ninS (Nat.ne_of_lt lt_b_a459) nin0)
  have F491 := F472.keep K482 (ninS (Nat.ne_of_lt lt_b_a459) nin0)
  have F492 := F473.keep K482 (ninS (Nat.ne_of_lt lt_b_a459) nin0)
  have I493 := I474.keep K482 (ninS (Nat.ne_of_lt lt_md_a459) nin0)
  have E494 := E475.keep K482
  have F495 := F476.keep K482 (ninS (Nat.ne_of_lt lt_q_a459) nin0)
  have F496 := F477.keep K482 (ninS (Nat.ne_of_lt lt_q_a459) nin0)
  have F497 := F478.keep K482 (ninS (Nat.ne_of_lt lt_q_a459) nin0)
  have I498 := I479.keep K482 (ninS (Nat.ne_of_lt lt_c_a459) nin0)
  obtain ⟨gf499, A500, E501⟩ := own_toF A483 (own_ifI (own_ifI zero_int _ _) _ _)
  have ev502 : gf499 0 = ((gd 0) <<< (Int32.ofNat k457 &&& 31)) ||| ((gd 1).toUInt32 >>> (((32 : Int32) - Int32.ofNat k457) &&& 31).toUInt32).toInt32 := Value.int.inj ((E501 0).symm)
  have hdh : 2147483648 ≤ uv (gf499 0) := by rw [ev502, sh_word _ _ hs1 hs2]; have := Int.ediv_nonneg rd1.1 (Int.natCast_nonneg (2 ^ (32 - k457))); omega
  have rt0 := uv_rng (gf499 0)
  refine K.aloadN dDM_49 rfl rfl ?_
  refine K.getF dDM_50 (wd160 hw) F486 ?_
  refine K.aloadN dDM_53 rfl rfl ?_
  refine K.getF dDM_54 (wd158 hw) F485 ?_
  rcases hT with ⟨rfl, t1, t2, t3⟩ | ⟨rfl, t1, t2⟩
  · refine K.iaload (v := .int (gc 0)) dDM_57 I489 (by decide) (by decide) rfl ?_
    refine K.callS [.int (gc 0)] [] 0 1 2 dDM_58 (wd188 hw) (wd82 hw) (wd83 hw) (wd84 hw) (by decide) (rmNI l Z a0 hw (gc 0) h480 n0) rfl (lenOf pd_6 rfl) rfl (Nat.le_of_eq rfl) (by decide) (by decide) rfl rfl (by decide) (by decide) (goIs fun z503 q504 => ?_)
    obtain ⟨k505, rfl, N506⟩ := q504
    refine K.iload dDM_61 rfl ?_
    have hk1 := nz_le N506 N458 t1 t2
    refine K.ic_lt dDM_63 (fun u => absurd u (fun q => absurd ((own_lt (by have := N506.1; omega) (by omega)).mp q) (by omega))) (fun _ => ?_)
    refine K.aloadN dDM_66 rfl rfl ?_
    refine K.getF dDM_67 (wd162 hw) F487 ?_
    refine K.iconst (1 : Int32) dDM_70 rfl ?_
    refine K.iadd dDM_71 ?_
    show Wk E h480 1 2 72 #[oA a, oA b, oA q, oI (0 : Int32), oI (Int32.ofNat k457), oI (Int32.ofNat 2), oA a459, oU, oU, oU, oU, oU, oU, oU, oU, oU, oU, oU, oU, oU, oU, oU, oU, oU, oU, oU, oU, oU] [.int (Int32.ofNat 5)]
    refine K.newP (ty := .int) (dv := .int 0) 5 2 7 dDM_72 (wd109 hw) rfl rfl (by decide) (by decide) (by decide) rfl rfl (by decide) (by decide) (fun h508 a507 ha509 g510 X511 A512 => ?_)
    have ks_a507 := ha_ge K484.1 ha509
    have lt_a_a507 : a < a507 := by rw [ha509]; exact F485.lt
    have lt_a459_a507 : a459 < a507 := by rw [ha509]; exact A500.lt
    have lt_c_a507 : c < a507 := by rw [ha509]; exact I498.lt
    have lt_mc_a507 : mc < a507 := by rw [ha509]; exact I489.lt
    have lt_q_a507 : q < a507 := by rw [ha509]; exact E494.lt
    have K513 := K484.ext X511
    have F514 := F485.ext X511
    have F515 := F486.ext X511
    have F516 := F487.ext X511
    have E517 := E488.ext X511
    have I518 := I489.ext X511
    have E519 := E494.ext X511
    have F520 := F495.ext X511
    have F521 := F496.ext X511
    have F522 := F497.ext X511
    have I523 := I498.ext X511
    have I524 := A500.ext X511
    refine K.astore #[oA a, oA b, oA q, oI (0 : Int32), oI (Int32.ofNat k457), oI (Int32.ofNat 2), oA a459, oU, oA a507, oU, oU, oU, oU, oU, oU, oU, oU, oU, oU, oU, oU, oU, oU, oU, oU, oU, oU, oU] dDM_74 rfl rfl ?_
    refine K.newO 3 10 dDM_76 (wd259 hw) (wd151 hw) (wd152 hw) rfl rfl (by decide) (by decide) (fun h526 a525 ha527 g528 X529 A530 D531 => ?_)
    have ks_a525 := ha_ge K513.1 ha527
    have lt_a_a525 : a < a525 := by rw [ha527]; exact F514.lt
    have lt_a459_a525 : a459 < a525 := by rw [ha527]; exact I524.lt
    have lt_a507_a525 : a507 < a525 := by rw [ha527]; exact A512.lt
    have lt_c_a525 : c < a525 := by rw [ha527]; exact I523.lt
    have lt_mc_a525 : mc < a525 := by rw [ha527]; exact I518.lt
    have lt_q_a525 : q < a525 := by rw [ha527]; exact E519.lt
    have K532 := K513.ext X529
    have F533 := F514.ext X529
    have F534 := F515.ext X529
    have F535 := F516.ext X529
    have E536 := E517.ext X529
    have I537 := I518.ext X529
    have E538 := E519.ext X529
    have F539 := F520.ext X529
    have F540 := F521.ext X529
    have F541 := F522.ext X529
    have I542 := I523.ext X529
    have I543 := I524.ext X529
    have I544 := A512.ext X529
    have F545 : Fld Z h526 a525 "java/math/MutableBigInteger" "offset" "I" (.int 0) := D531 (Or.inl (wd159 hw)) (ty := .int) (by decide)
    have F546 : Fld Z h526 a525 "java/math/MutableBigInteger" "value" "[I" .null := D531 (Or.inl (wd161 hw)) (ty := (.array .int)) (by decide)
    have F547 : Fld Z h526 a525 "java/math/MutableBigInteger" "intLen" "I" (.int 0) := D531 (Or.inl (wd163 hw)) (ty := .int) (by decide)
    refine K.dup dDM_79 rfl ?_
    refine K.aload dDM_80 rfl rfl ?_
    refine K.callI (a := a525) [.ref a507] [.ref a525] 1 3 10 dDM_82 rfl rfl (wd260 hw) (wd165 hw) (wd152 hw) (wd166 hw) (by decide) (rmM1 l Z a0 hw a525 a507 (Int32.ofNat 5) (fun _ => .int 0) h526 n0 A530 F545 F546 F547 g528 I544 (Nat.ne_of_lt lt_a507_a525)) rfl (lenOf pd_22 rfl) rfl (Nat.le_of_eq rfl) (by decide) (by decide) rfl rfl (by decide) (by decide) (goU fun h548 q549 => ?_)
    obtain ⟨K550, F551, F552, F553⟩ := q549
    have K554 := K532.trans K550 (allS (Or.inr ks_a525) all0)
    have F555 := F533.keep K550 (ninS (Nat.ne_of_lt lt_a_a525) nin0)
    have F556 := F534.keep K550 (ninS (Nat.ne_of_lt lt_a_a525) nin0)
    have F557 := F535.keep K550 (ninS (Nat.ne_of_lt lt_a_a525) nin0)
    have E558 := E536.keep K550
    have I559 := I537.keep K550 (ninS (Nat.ne_of_lt lt_mc_a525) nin0)
    have E560 := E538.keep K550
    have F561 := F539.keep K550 (ninS (Nat.ne_of_lt lt_q_a525) nin0)
    have F562 := F540.keep K550 (ninS (Nat.ne_of_lt lt_q_a525) nin0)
    have F563 := F541.keep K550 (ninS (Nat.ne_of_lt lt_q_a525) nin0)
    have I564 := I542.keep K550 (ninS (Nat.ne_of_lt lt_c_a525) nin0)
    have I565 := I543.keep K550 (ninS (Nat.ne_of_lt lt_a459_a525) nin0)
    have I566 := I544.keep K550 (ninS (Nat.ne_of_lt lt_a507_a525) nin0)
    have E567 := A530.keep K550
    refine K.astore #[oA a, oA b, oA q, oI (0 : Int32), oI (Int32.ofNat k457), oI (Int32.ofNat 2), oA a459, oA a525, oA a507, oU, oU, oU, oU, oU, oU, oU, oU, oU, oU, oU, oU, oU, oU, oU, oU, oU, oU, oU] dDM_85 rfl rfl ?_
    refine K.aload dDM_87 rfl rfl ?_
    refine K.aloadN dDM_89 rfl rfl ?_
    refine K.getF dDM_90 (wd162 hw) F557 ?_
    refine K.putF dDM_93 (wd162 hw) F553 E567 (Or.inl (wd163 hw)) (wd151 hw) (ty := .int) (by decide) rfl rfl g528 (fun h568 W569 => ?_)
    have K570 := K554.wr W569 (Or.inr ks_a525)
    have F571 := F555.other W569 (Or.inl (Nat.ne_of_lt lt_a_a525))
    have F572 := F556.other W569 (Or.inl (Nat.ne_of_lt lt_a_a525))
    have F573 := F557.other W569 (Or.inl (Nat.ne_of_lt lt_a_a525))
    have E574 := E558.wr W569
    have I575 := I559.other W569 (Nat.ne_of_lt lt_mc_a525)
    have E576 := E560.wr W569
    have F577 := F561.other W569 (Or.inl (Nat.ne_of_lt lt_q_a525))
    have F578 := F562.other W569 (Or.inl (Nat.ne_of_lt lt_q_a525))
    have F579 := F563.other W569 (Or.inl (Nat.ne_of_lt lt_q_a525))
    have I580 := I564.other W569 (Nat.ne_of_lt lt_c_a525)
    have I581 := I565.other W569 (Nat.ne_of_lt lt_a459_a525)
    have I582 := I566.other W569 (Nat.ne_of_lt lt_a507_a525)
    have E583 := E567.wr W569
    have F584 := F551.other W569 (Or.inr (sn32 hw))
    have F585 := F552.other W569 (Or.inr (sn33 hw))
    have F586 := F553.same W569
    refine K.aload dDM_96 rfl rfl ?_
    refine K.iconst (1 : Int32) dDM_98 rfl ?_
    refine K.putF dDM_99 (wd158 hw) F584 E583 (Or.inl (wd159 hw)) (wd151 hw) (ty := .int) (by decide) rfl rfl g528 (fun h587 W588 => ?_)
    have K589 := K570.wr W588 (Or.inr ks_a525)
    have F590 := F571.other W588 (Or.inl (Nat.ne_of_lt lt_a_a525))
    have F591 := F572.other W588 (Or.inl (Nat.ne_of_lt lt_a_a525))
    have F592 := F573.other W588 (Or.inl (Nat.ne_of_lt lt_a_a525))
    have E593 := E574.wr W588
    have I594 := I575.other W588 (Nat.ne_of_lt lt_mc_a525)
    have E595 := E576.wr W588
    have F596 := F577.other W588 (Or.inl (Nat.ne_of_lt lt_q_a525))
    have F597 := F578.other W588 (Or.inl (Nat.ne_of_lt lt_q_a525))
    have F598 := F579.other W588 (Or.inl (Nat.ne_of_lt lt_q_a525))
    have I599 := I580.other W588 (Nat.ne_of_lt lt_c_a525)
    have I600 := I581.other W588 (Nat.ne_of_lt lt_a459_a525)
    have I601 := I582.other W588 (Nat.ne_of_lt lt_a507_a525)
    have E602 := E583.wr W588
    have F603 := F584.same W588
    have F604 := F585.other W588 (Or.inr (sn28 hw))
    have F605 := F586.other W588 (Or.inr (sn29 hw))
    refine K.aloadN dDM_102 rfl rfl ?_
    refine K.getF dDM_103 (wd160 hw) F591 ?_
    refine K.aloadN dDM_106 rfl rfl ?_
    refine K.getF dDM_107 (wd158 hw) F590 ?_
    refine K.aloadN dDM_110 rfl rfl ?_
    refine K.getF dDM_111 (wd162 hw) F592 ?_
    refine K.aload dDM_114 rfl rfl ?_
    refine K.iconst (1 : Int32) dDM_116 rfl ?_
    refine K.iload dDM_117 rfl ?_
    refine K.callS [.ref mc, .int 0, .int (Int32.ofNat 4), .ref a507, .int 1, .int (Int32.ofNat k457)] [] 0 3 10 dDM_119 (wd256 hw) (wd257 hw) (wd152 hw) (wd258 hw) (by decide) (rmCA4 l Z a0 hw mc a507 k457 gc h587 n0 I594 I601 g510 (Nat.ne_of_gt lt_mc_a507)) rfl (lenOf pd_21 rfl) rfl (Nat.le_of_eq rfl) (by decide) (by decide) rfl rfl (by decide) (by decide) (goU fun h606 q607 => ?_)
    obtain ⟨K608, A609⟩ := q607
    have K610 := K589.trans K608 (allS (Or.inr ks_a507) all0)
    have F611 := F590.keep K608 (ninS (Nat.ne_of_lt lt_a_a507) nin0)
    have F612 := F591.keep K608 (ninS (Nat.ne_of_lt lt_a_a507) nin0)
    have F613 := F592.keep K608 (ninS (Nat.ne_of_lt lt_a_a507) nin0)
    have E614 := E593.keep K608
    have I615 := I594.keep K608 (ninS (Nat.ne_of_lt lt_mc_a507) nin0)
    have E616 := E595.keep K608
    have F617 := F596.keep K608 (ninS (Nat.ne_of_lt lt_q_a507) nin0)
    have F618 := F597.keep K608 (ninS (Nat.ne_of_lt lt_q_a507) nin0)
    have F619 := F598.keep K608 (ninS (Nat.ne_of_lt lt_q_a507) nin0)
    have I620 := I599.keep K608 (ninS (Nat.ne_of_lt lt_c_a507) nin0)
    have I621 := I600.keep K608 (ninS (Nat.ne_of_lt lt_a459_a507) nin0)
    have E622 := E602.keep K608
    have F623 := F603.keep K608 (ninS (Nat.ne_of_gt lt_a507_a525) nin0)
    have F624 := F604.keep K608 (ninS (Nat.ne_of_gt lt_a507_a525) nin0)
    have F625 := F605.keep K608 (ninS (Nat.ne_of_gt lt_a507_a525) nin0)
    refine K.goto dDM_122 ?_
    refine K.aload dDM_323 rfl rfl ?_
    refine K.getF dDM_325 (wd162 hw) F625 ?_
    refine K.istore #[oA a, oA b, oA q, oI (0 : Int32), oI (Int32.ofNat k457), oI (Int32.ofNat 2), oA a459, oA a525, oI (Int32.ofNat 4), oU, oU, oU, oU, oU, oU, oU, oU, oU, oU, oU, oU, oU, oU, oU, oU, oU, oU, oU] dDM_328 rfl ?_
    refine K.iload dDM_330 rfl ?_
    refine K.iload dDM_332 rfl ?_
    refine K.isub dDM_334 ?_
    refine K.iconst (1 : Int32) dDM_335 rfl ?_
    refine K.iadd dDM_336 ?_
    show Wk E h606 3 10 337 #[oA a, oA b, oA q, oI (0 : Int32), oI (Int32.ofNat k457), oI (Int32.ofNat 2), oA a459, oA a525, oI (Int32.ofNat 4), oU, oU, oU, oU, oU, oU, oU, oU, oU, oU, oU, oU, oU, oU, oU, oU, oU, oU, oU] [.int 3]
    refine K.istore #[oA a, oA b, oA q, oI (0 : Int32), oI (Int32.ofNat k457), oI (Int32.ofNat 2), oA a459, oA a525, oI (Int32.ofNat 4), oI (3 : Int32), oU, oU, oU, oU, oU, oU, oU, oU, oU, oU, oU, oU, oU, oU, oU, oU, oU, oU] dDM_337 rfl ?_
    refine K.aloadN dDM_339 rfl rfl ?_
    refine K.getF dDM_340 (wd160 hw) F618 ?_
    refine K.arraylength dDM_343 I620 ?_
    refine K.iload dDM_344 rfl ?_
    refine K.ic_ge dDM_346 (fun _ => ?_) (fun u => absurd (by decide) u)
    refine K.aloadN dDM_349 rfl rfl ?_
    refine K.iload dDM_350 rfl ?_
    refine K.newP (ty := .int) (dv := .int 0) 3 4 13 dDM_352 (wd109 hw) rfl rfl (by decide) (by decide) (by decide) rfl rfl (by decide) (by decide) (fun h627 a626 ha628 g629 X630 A631 => ?_)
    have ks_a626 := ha_ge K610.1 ha628
    have lt_a_a626 : a < a626 := by rw [ha628]; exact E614.lt
    have lt_a459_a626 : a459 < a626 := by rw [ha628]; exact I621.lt
    have lt_a507_a626 : a507 < a626 := by rw [ha628]; exact A609.lt
    have lt_a525_a626 : a525 < a626 := by rw [ha628]; exact E622.lt
    have lt_q_a626 : q < a626 := by rw [ha628]; exact E616.lt
    have K632 := K610.ext X630
    have E633 := E614.ext X630
    have E634 := E616.ext X630
    have F635 := F617.ext X630
    have F636 := F618.ext X630
    have F637 := F619.ext X630
    have I638 := I621.ext X630
    have E639 := E622.ext X630
    have F640 := F623.ext X630
    have F641 := F624.ext X630
    have F642 := F625.ext X630
    have I643 := A609.ext X630
    refine K.putF dDM_354 (wd160 hw) F636 E634 (Or.inl (wd161 hw)) (wd151 hw) (ty := (.array .int)) (by decide) rfl rfl geq (fun h644 W645 => ?_)
    have K646 := K632.wr W645 (Or.inl (mg 0 rfl))
    have E647 := E633.wr W645
    have E648 := E634.wr W645
    have F649 := F635.other W645 (Or.inr (sn30 hw))
    have F650 := F636.same W645
    have F651 := F637.other W645 (Or.inr (sn31 hw))
    have I652 := I638.other W645 (Nat.ne_of_gt lt_q_a459)
    have E653 := E639.wr W645
    have F654 := F640.other W645 (Or.inl (Nat.ne_of_gt lt_q_a525))
    have F655 := F641.other W645 (Or.inl (Nat.ne_of_gt lt_q_a525))
    have F656 := F642.other W645 (Or.inl (Nat.ne_of_gt lt_q_a525))
    have I657 := I643.other W645 (Nat.ne_of_gt lt_q_a507)
    have I658 := A631.other W645 (Nat.ne_of_gt lt_q_a626)
    refine K.aloadN dDM_357 rfl rfl ?_
    refine K.iconst (0 : Int32) dDM_358 rfl ?_
    refine K.putF dDM_359 (wd158 hw) F649 E648 (Or.inl (wd159 hw)) (wd151 hw) (ty := .int) (by decide) rfl rfl geq (fun h659 W660 => ?_)
    have K661 := K646.wr W660 (Or.inl (mg 0 rfl))
    have E662 := E647.wr W660
    have E663 := E648.wr W660
    have F664 := F649.same W660
    have F665 := F650.other W660 (Or.inr (sn28 hw))
    have F666 := F651.other W660 (Or.inr (sn29 hw))
    have I667 := I652.other W660 (Nat.ne_of_gt lt_q_a459)
    have E668 := E653.wr W660
    have F669 := F654.other W660 (Or.inl (Nat.ne_of_gt lt_q_a525))
    have F670 := F655.other W660 (Or.inl (Nat.ne_of_gt lt_q_a525))
    have F671 := F656.other W660 (Or.inl (Nat.ne_of_gt lt_q_a525))
    have I672 := I657.other W660 (Nat.ne_of_gt lt_q_a507)
    have I673 := I658.other W660 (Nat.ne_of_gt lt_q_a626)
    refine K.aloadN dDM_362 rfl rfl ?_
    refine K.iload dDM_363 rfl ?_
    refine K.putF dDM_365 (wd162 hw) F666 E663 (Or.inl (wd163 hw)) (wd151 hw) (ty := .int) (by decide) rfl rfl geq (fun h674 W675 => ?_)
    have K676 := K661.wr W675 (Or.inl (mg 0 rfl))
    have E677 := E662.wr W675
    have E678 := E663.wr W675
    have F679 := F664.other W675 (Or.inr (sn32 hw))
    have F680 := F665.other W675 (Or.inr (sn33 hw))
    have F681 := F666.same W675
    have I682 := I667.other W675 (Nat.ne_of_gt lt_q_a459)
    have E683 := E668.wr W675
    have F684 := F669.other W675 (Or.inl (Nat.ne_of_gt lt_q_a525))
    have F685 := F670.other W675 (Or.inl (Nat.ne_of_gt lt_q_a525))
    have F686 := F671.other W675 (Or.inl (Nat.ne_of_gt lt_q_a525))
    have I687 := I672.other W675 (Nat.ne_of_gt lt_q_a507)
    have I688 := I673.other W675 (Nat.ne_of_gt lt_q_a626)
    refine K.aloadN dDM_368 rfl rfl ?_
    refine K.getF dDM_369 (wd160 hw) F680 ?_
    refine K.astore #[oA a, oA b, oA q, oI (0 : Int32), oI (Int32.ofNat k457), oI (Int32.ofNat 2), oA a459, oA a525, oI (Int32.ofNat 4), oI (3 : Int32), oA a626, oU, oU, oU, oU, oU, oU, oU, oU, oU, oU, oU, oU, oU, oU, oU, oU, oU] dDM_372 rfl rfl ?_
    refine K.aload dDM_374 rfl rfl ?_
    refine K.iconst (0 : Int32) dDM_376 rfl ?_
    refine K.putF dDM_377 (wd158 hw) F684 E683 (Or.inl (wd159 hw)) (wd151 hw) (ty := .int) (by decide) rfl rfl g528 (fun h689 W690 => ?_)
    have K691 := K676.wr W690 (Or.inr ks_a525)
    have E692 := E677.wr W690
    have E693 := E678.wr W690
    have F694 := F679.other W690 (Or.inl (Nat.ne_of_lt lt_q_a525))
    have F695 := F680.other W690 (Or.inl (Nat.ne_of_lt lt_q_a525))
    have F696 := F681.other W690 (Or.inl (Nat.ne_of_lt lt_q_a525))
    have I697 := I682.other W690 (Nat.ne_of_lt lt_a459_a525)
    have E698 := E683.wr W690
    have F699 := F684.same W690
    have F700 := F685.other W690 (Or.inr (sn28 hw))
    have F701 := F686.other W690 (Or.inr (sn29 hw))
    have I702 := I687.other W690 (Nat.ne_of_lt lt_a507_a525)
    have I703 := I688.other W690 (Nat.ne_of_gt lt_a525_a626)
    refine K.aload dDM_380 rfl rfl ?_
    refine K.getF dDM_382 (wd160 hw) F700 ?_
    refine K.iconst (0 : Int32) dDM_385 rfl ?_
    refine K.iconst (0 : Int32) dDM_386 rfl ?_
    refine K.iastore dDM_387 I702 (by decide) (by decide) g510 (fun h704 W705 A706 => ?_)
    have K707 := K691.wr W705 (Or.inr ks_a507)
    have E708 := E692.wr W705
    have E709 := E693.wr W705
    have F710 := F694.other W705 (Or.inl (Nat.ne_of_lt lt_q_a507))
    have F711 := F695.other W705 (Or.inl (Nat.ne_of_lt lt_q_a507))
    have F712 := F696.other W705 (Or.inl (Nat.ne_of_lt lt_q_a507))
    have I713 := I697.other W705 (Nat.ne_of_lt lt_a459_a507)
    have E714 := E698.wr W705
    have F715 := F699.other W705 (Or.inl (Nat.ne_of_gt lt_a507_a525))
    have F716 := F700.other W705 (Or.inl (Nat.ne_of_gt lt_a507_a525))
    have F717 := F701.other W705 (Or.inl (Nat.ne_of_gt lt_a507_a525))
    have I718 := I703.other W705 (Nat.ne_of_gt lt_a507_a626)
    obtain ⟨gf719, A720, E721⟩ := own_toF A706 (own_ifI (own_ifI (own_ifI (own_ifI (own_ifI zero_int _ _) _ _) _ _) _ _) _ _)
    refine K.aload dDM_388 rfl rfl ?_
    refine K.dup dDM_390 rfl ?_
    refine K.getF dDM_391 (wd162 hw) F717 ?_
    refine K.iconst (1 : Int32) dDM_394 rfl ?_
    refine K.iadd dDM_395 ?_
    refine K.putF dDM_396 (wd162 hw) F717 E714 (Or.inl (wd163 hw)) (wd151 hw) (ty := .int) (by decide) rfl rfl g528 (fun h722 W723 => ?_)
    have K724 := K707.wr W723 (Or.inr ks_a525)
    have E725 := E708.wr W723
    have E726 := E709.wr W723
    have F727 := F710.other W723 (Or.inl (Nat.ne_of_lt lt_q_a525))
    have F728 := F711.other W723 (Or.inl (Nat.ne_of_lt lt_q_a525))
    have F729 := F712.other W723 (Or.inl (Nat.ne_of_lt lt_q_a525))
    have I730 := I713.other W723 (Nat.ne_of_lt lt_a459_a525)
    have E731 := E714.wr W723
    have F732 := F715.other W723 (Or.inr (sn32 hw))
    have F733 := F716.other W723 (Or.inr (sn33 hw))
    have F734 := F717.same W723
    have I735 := A720.other W723 (Nat.ne_of_lt lt_a507_a525)
    have I736 := I718.other W723 (Nat.ne_of_gt lt_a525_a626)
    refine K.aload dDM_399 rfl rfl ?_
    refine K.iconst (0 : Int32) dDM_401 rfl ?_
    refine K.iaload (v := .int (gf499 0)) dDM_402 I730 (by decide) (by decide) rfl ?_
    refine K.istore #[oA a, oA b, oA q, oI (0 : Int32), oI (Int32.ofNat k457), oI (Int32.ofNat 2), oA a459, oA a525, oI (Int32.ofNat 4), oI (3 : Int32), oA a626, oI (gf499 0), oU, oU, oU, oU, oU, oU, oU, oU, oU, oU, oU, oU, oU, oU, oU, oU] dDM_403 rfl ?_
    refine K.iload dDM_405 rfl ?_
    refine K.i2l dDM_407 ?_
    refine K.ldc2J dDM_408 (wd187 hw) ?_
    refine K.land dDM_411 ?_
    obtain ⟨D, eD⟩ : ∃ x_ : Int64, x_ = ((gf499 0).toInt64) &&& (4294967295 : Int64) := ⟨_, rfl⟩
    rw [← eD]
    have hD := m32 (gf499 0)
    rw [← eD] at hD
    refine K.lstore #[oA a, oA b, oA q, oI (0 : Int32), oI (Int32.ofNat k457), oI (Int32.ofNat 2), oA a459, oA a525, oI (Int32.ofNat 4), oI (3 : Int32), oA a626, oI (gf499 0), oJ D, oT, oU, oU, oU, oU, oU, oU, oU, oU, oU, oU, oU, oU, oU, oU] dDM_412 rfl ?_
    refine K.aload dDM_414 rfl rfl ?_
    refine K.iconst (1 : Int32) dDM_416 rfl ?_
    refine K.iaload (v := .int (gf499 1)) dDM_417 I730 (by decide) (by decide) rfl ?_
    refine K.istore #[oA a, oA b, oA q, oI (0 : Int32), oI (Int32.ofNat k457), oI (Int32.ofNat 2), oA a459, oA a525, oI (Int32.ofNat 4), oI (3 : Int32), oA a626, oI (gf499 0), oJ D, oT, oI (gf499 1), oU, oU, oU, oU, oU, oU, oU, oU, oU, oU, oU, oU, oU] dDM_418 rfl ?_
    refine K.iconst (0 : Int32) dDM_420 rfl ?_
    refine K.istore #[oA a, oA b, oA q, oI (0 : Int32), oI (Int32.ofNat k457), oI (Int32.ofNat 2), oA a459, oA a525, oI (Int32.ofNat 4), oI (3 : Int32), oA a626, oI (gf499 0), oJ D, oT, oI (gf499 1), oI (0 : Int32), oU, oU, oU, oU, oU, oU, oU, oU, oU, oU, oU, oU] dDM_421 rfl ?_
    have ev737 : gf719 0 = 0 := Value.int.inj ((E721 0).symm)
    have ev738 : gf719 1 = ((gc 0) <<< (Int32.ofNat k457 &&& 31)) ||| ((gc 1).toUInt32 >>> (((32 : Int32) - Int32.ofNat k457) &&& 31).toUInt32).toInt32 := Value.int.inj ((E721 1).symm)
    have hg1 : 1 ≤ uv (gf719 1) := by
      rw [ev738, sh_word _ _ hs1 hs2]
      exact own_r1 t1 (pw_le (a := 0) (b := k457) (Nat.zero_le _)) (own_mulle t1 t2 hs4) (Int.ediv_nonneg rc1.1 (Int.natCast_nonneg _))
    have hq_ : (fun _ : Nat => (0 : Int32)) 0 = 0 := rfl
    exact J0 h722 a459 a507 a525 a626 k457 gf719 (fun _ => 0) gf499 D E725 F732 F733 I730 I735 E726 F727 F728 F729 I736 K724 g510 g629 ks_a507 ks_a626 (Nat.ne_of_gt lt_a459_a507) (Nat.ne_of_gt lt_a507_a525) (Nat.ne_of_lt lt_a525_a626) (Nat.ne_of_gt lt_a507_a626) (Nat.ne_of_lt lt_a459_a626) (Nat.ne_of_lt lt_q_a507) (Nat.ne_of_lt lt_q_a626) (Nat.ne_of_gt lt_q_a525) (Nat.ne_of_gt lt_q_a459) (Nat.ne_of_gt lt_q_a507) hdh hD ev737 hg1 hq_
  · refine K.iaload (v := .int (gc 0)) dDM_57 I489 (by decide) (by decide) rfl ?_
    refine K.callS [.int (gc 0)] [] 0 1 2 dDM_58 (wd188 hw) (wd82 hw) (wd83 hw) (wd84 hw) (by decide) (rmNI l Z a0 hw (gc 0) h480 n0) rfl (lenOf pd_6 rfl) rfl (Nat.le_of_eq rfl) (by decide) (by decide) rfl rfl (by decide) (by decide) (goIs fun z739 q740 => ?_)
    obtain ⟨k741, rfl, N742⟩ := q740
    refine K.iload dDM_61 rfl ?_
    have hk1 := nz_top N742 t1
    refine K.ic_lt dDM_63 (fun _ => ?_) (fun u => absurd ((own_lt (by omega) (by omega)).mpr (by omega)) u)
    refine K.aloadN dDM_125 rfl rfl ?_
    refine K.getF dDM_126 (wd162 hw) F487 ?_
    refine K.iconst (2 : Int32) dDM_129 rfl ?_
    refine K.iadd dDM_130 ?_
    show Wk E h480 1 2 131 #[oA a, oA b, oA q, oI (0 : Int32), oI (Int32.ofNat k457), oI (Int32.ofNat 2), oA a459, oU, oU, oU, oU, oU, oU, oU, oU, oU, oU, oU, oU, oU, oU, oU, oU, oU, oU, oU, oU, oU] [.int (Int32.ofNat 5)]
    refine K.newP (ty := .int) (dv := .int 0) 5 2 7 dDM_131 (wd109 hw) rfl rfl (by decide) (by decide) (by decide) rfl rfl (by decide) (by decide) (fun h744 a743 ha745 g746 X747 A748 => ?_)
    have ks_a743 := ha_ge K484.1 ha745
    have lt_a_a743 : a < a743 := by rw [ha745]; exact F485.lt
    have lt_a459_a743 : a459 < a743 := by rw [ha745]; exact A500.lt
    have lt_c_a743 : c < a743 := by rw [ha745]; exact I498.lt
    have lt_mc_a743 : mc < a743 := by rw [ha745]; exact I489.lt
    have lt_q_a743 : q < a743 := by rw [ha745]; exact E494.lt
    have K749 := K484.ext X747
    have F750 := F485.ext X747
    have F751 := F486.ext X747
    have F752 := F487.ext X747
    have E753 := E488.ext X747
    have I754 := I489.ext X747
    have E755 := E494.ext X747
    have F756 := F495.ext X747
    have F757 := F496.ext X747
    have F758 := F497.ext X747
    have I759 := I498.ext X747
    have I760 := A500.ext X747
    refine K.astore #[oA a, oA b, oA q, oI (0 : Int32), oI (Int32.ofNat k457), oI (Int32.ofNat 2), oA a459, oU, oA a743, oU, oU, oU, oU, oU, oU, oU, oU, oU, oU, oU, oU, oU, oU, oU, oU, oU, oU, oU] dDM_133 rfl rfl ?_
    refine K.newO 3 10 dDM_135 (wd259 hw) (wd151 hw) (wd152 hw) rfl rfl (by decide) (by decide) (fun h762 a761 ha763 g764 X765 A766 D767 => ?_)
    have ks_a761 := ha_ge K749.1 ha763
    have lt_a_a761 : a < a761 := by rw [ha763]; exact F750.lt
    have lt_a459_a761 : a459 < a761 := by rw [ha763]; exact I760.lt
    have lt_a743_a761 : a743 < a761 := by rw [ha763]; exact A748.lt
    have lt_c_a761 : c < a761 := by rw [ha763]; exact I759.lt
    have lt_mc_a761 : mc < a761 := by rw [ha763]; exact I754.lt
    have lt_q_a761 : q < a761 := by rw [ha763]; exact E755.lt
    have K768 := K749.ext X765
    have F769 := F750.ext X765
    have F770 := F751.ext X765
    have F771 := F752.ext X765
    have E772 := E753.ext X765
    have I773 := I754.ext X765
    have E774 := E755.ext X765
    have F775 := F756.ext X765
    have F776 := F757.ext X765
    have F777 := F758.ext X765
    have I778 := I759.ext X765
    have I779 := I760.ext X765
    have I780 := A748.ext X765
    have F781 : Fld Z h762 a761 "java/math/MutableBigInteger" "offset" "I" (.int 0) := D767 (Or.inl (wd159 hw)) (ty := .int) (by decide)
    have F782 : Fld Z h762 a761 "java/math/MutableBigInteger" "value" "[I" .null := D767 (Or.inl (wd161 hw)) (ty := (.array .int)) (by decide)
    have F783 : Fld Z h762 a761 "java/math/MutableBigInteger" "intLen" "I" (.int 0) := D767 (Or.inl (wd163 hw)) (ty := .int) (by decide)
    refine K.dup dDM_138 rfl ?_
    refine K.aload dDM_139 rfl rfl ?_
    refine K.callI (a := a761) [.ref a743] [.ref a761] 1 3 10 dDM_141 rfl rfl (wd260 hw) (wd165 hw) (wd152 hw) (wd166 hw) (by decide) (rmM1 l Z a0 hw a761 a743 (Int32.ofNat 5) (fun _ => .int 0) h762 n0 A766 F781 F782 F783 g764 I780 (Nat.ne_of_lt lt_a743_a761)) rfl (lenOf pd_22 rfl) rfl (Nat.le_of_eq rfl) (by decide) (by decide) rfl rfl (by decide) (by decide) (goU fun h784 q785 => ?_)
    obtain ⟨K786, F787, F788, F789⟩ := q785
    have K790 := K768.trans K786 (allS (Or.inr ks_a761) all0)
    have F791 := F769.keep K786 (ninS (Nat.ne_of_lt lt_a_a761) nin0)
    have F792 := F770.keep K786 (ninS (Nat.ne_of_lt lt_a_a761) nin0)
    have F793 := F771.keep K786 (ninS (Nat.ne_of_lt lt_a_a761) nin0)
    have E794 := E772.keep K786
    have I795 := I773.keep K786 (ninS (Nat.ne_of_lt lt_mc_a761) nin0)
    have E796 := E774.keep K786
    have F797 := F775.keep K786 (ninS (Nat.ne_of_lt lt_q_a761) nin0)
    have F798 := F776.keep K786 (ninS (Nat.ne_of_lt lt_q_a761) nin0)
    have F799 := F777.keep K786 (ninS (Nat.ne_of_lt lt_q_a761) nin0)
    have I800 := I778.keep K786 (ninS (Nat.ne_of_lt lt_c_a761) nin0)
    have I801 := I779.keep K786 (ninS (Nat.ne_of_lt lt_a459_a761) nin0)
    have I802 := I780.keep K786 (ninS (Nat.ne_of_lt lt_a743_a761) nin0)
    have E803 := A766.keep K786
    refine K.astore #[oA a, oA b, oA q, oI (0 : Int32), oI (Int32.ofNat k457), oI (Int32.ofNat 2), oA a459, oA a761, oA a743, oU, oU, oU, oU, oU, oU, oU, oU, oU, oU, oU, oU, oU, oU, oU, oU, oU, oU, oU] dDM_144 rfl rfl ?_
    refine K.aload dDM_146 rfl rfl ?_
    refine K.aloadN dDM_148 rfl rfl ?_
    refine K.getF dDM_149 (wd162 hw) F793 ?_
    refine K.iconst (1 : Int32) dDM_152 rfl ?_
    refine K.iadd dDM_153 ?_
    show Wk E h784 3 10 154 #[oA a, oA b, oA q, oI (0 : Int32), oI (Int32.ofNat k457), oI (Int32.ofNat 2), oA a459, oA a761, oA a743, oU, oU, oU, oU, oU, oU, oU, oU, oU, oU, oU, oU, oU, oU, oU, oU, oU, oU, oU] [.int (Int32.ofNat 4), .ref a761]
    refine K.putF dDM_154 (wd162 hw) F789 E803 (Or.inl (wd163 hw)) (wd151 hw) (ty := .int) (by decide) rfl rfl g764 (fun h804 W805 => ?_)
    have K806 := K790.wr W805 (Or.inr ks_a761)
    have F807 := F791.other W805 (Or.inl (Nat.ne_of_lt lt_a_a761))
    have F808 := F792.other W805 (Or.inl (Nat.ne_of_lt lt_a_a761))
    have F809 := F793.other W805 (Or.inl (Nat.ne_of_lt lt_a_a761))
    have E810 := E794.wr W805
    have I811 := I795.other W805 (Nat.ne_of_lt lt_mc_a761)
    have E812 := E796.wr W805
    have F813 := F797.other W805 (Or.inl (Nat.ne_of_lt lt_q_a761))
    have F814 := F798.other W805 (Or.inl (Nat.ne_of_lt lt_q_a761))
    have F815 := F799.other W805 (Or.inl (Nat.ne_of_lt lt_q_a761))
    have I816 := I800.other W805 (Nat.ne_of_lt lt_c_a761)
    have I817 := I801.other W805 (Nat.ne_of_lt lt_a459_a761)
    have I818 := I802.other W805 (Nat.ne_of_lt lt_a743_a761)
    have E819 := E803.wr W805
    have F820 := F787.other W805 (Or.inr (sn32 hw))
    have F821 := F788.other W805 (Or.inr (sn33 hw))
    have F822 := F789.same W805
    refine K.aload dDM_157 rfl rfl ?_
    refine K.iconst (1 : Int32) dDM_159 rfl ?_
    refine K.putF dDM_160 (wd158 hw) F820 E819 (Or.inl (wd159 hw)) (wd151 hw) (ty := .int) (by decide) rfl rfl g764 (fun h823 W824 => ?_)
    have K825 := K806.wr W824 (Or.inr ks_a761)
    have F826 := F807.other W824 (Or.inl (Nat.ne_of_lt lt_a_a761))
    have F827 := F808.other W824 (Or.inl (Nat.ne_of_lt lt_a_a761))
    have F828 := F809.other W824 (Or.inl (Nat.ne_of_lt lt_a_a761))
    have E829 := E810.wr W824
    have I830 := I811.other W824 (Nat.ne_of_lt lt_mc_a761)
    have E831 := E812.wr W824
    have F832 := F813.other W824 (Or.inl (Nat.ne_of_lt lt_q_a761))
    have F833 := F814.other W824 (Or.inl (Nat.ne_of_lt lt_q_a761))
    have F834 := F815.other W824 (Or.inl (Nat.ne_of_lt lt_q_a761))
    have I835 := I816.other W824 (Nat.ne_of_lt lt_c_a761)
    have I836 := I817.other W824 (Nat.ne_of_lt lt_a459_a761)
    have I837 := I818.other W824 (Nat.ne_of_lt lt_a743_a761)
    have E838 := E819.wr W824
    have F839 := F820.same W824
    have F840 := F821.other W824 (Or.inr (sn28 hw))
    have F841 := F822.other W824 (Or.inr (sn29 hw))
    refine K.aloadN dDM_163 rfl rfl ?_
    refine K.getF dDM_164 (wd158 hw) F826 ?_
    refine K.istore #[oA a, oA b, oA q, oI (0 : Int32), oI (Int32.ofNat k457), oI (Int32.ofNat 2), oA a459, oA a761, oA a743, oI (0 : Int32), oU, oU, oU, oU, oU, oU, oU, oU, oU, oU, oU, oU, oU, oU, oU, oU, oU, oU] dDM_167 rfl ?_
    refine K.iconst (0 : Int32) dDM_169 rfl ?_
    refine K.istore #[oA a, oA b, oA q, oI (0 : Int32), oI (Int32.ofNat k457), oI (Int32.ofNat 2), oA a459, oA a761, oA a743, oI (0 : Int32), oI (0 : Int32), oU, oU, oU, oU, oU, oU, oU, oU, oU, oU, oU, oU, oU, oU, oU, oU, oU] dDM_170 rfl ?_
    refine K.bipush (32 : Int32) dDM_172 rfl ?_
    refine K.iload dDM_174 rfl ?_
    refine K.isub dDM_176 ?_
    refine K.istore #[oA a, oA b, oA q, oI (0 : Int32), oI (Int32.ofNat k457), oI (Int32.ofNat 2), oA a459, oA a761, oA a743, oI (0 : Int32), oI (0 : Int32), oI ((32 : Int32) - (Int32.ofNat k457)), oU, oU, oU, oU, oU, oU, oU, oU, oU, oU, oU, oU, oU, oU, oU, oU] dDM_177 rfl ?_
    refine K.iconst (1 : Int32) dDM_179 rfl ?_
    refine K.istore #[oA a, oA b, oA q, oI (0 : Int32), oI (Int32.ofNat k457), oI (Int32.ofNat 2), oA a459, oA a761, oA a743, oI (0 : Int32), oI (0 : Int32), oI ((32 : Int32) - (Int32.ofNat k457)), oI (1 : Int32), oU, oU, oU, oU, oU, oU, oU, oU, oU, oU, oU, oU, oU, oU, oU] dDM_180 rfl ?_
    refine K.iload dDM_182 rfl ?_
    refine K.aloadN dDM_184 rfl rfl ?_
    refine K.getF dDM_185 (wd162 hw) F828 ?_
    refine K.iconst (1 : Int32) dDM_188 rfl ?_
    refine K.iadd dDM_189 ?_
    refine K.ic_ge dDM_190 (fun _ => ?_) (fun u => absurd (by decide) u)
    refine K.iload dDM_193 rfl ?_
    refine K.istore #[oA a, oA b, oA q, oI (0 : Int32), oI (Int32.ofNat k457), oI (Int32.ofNat 2), oA a459, oA a761, oA a743, oI (0 : Int32), oI (0 : Int32), oI ((32 : Int32) - (Int32.ofNat k457)), oI (1 : Int32), oI (0 : Int32), oU, oU, oU, oU, oU, oU, oU, oU, oU, oU, oU, oU, oU, oU] dDM_195 rfl ?_
    refine K.aloadN dDM_197 rfl rfl ?_
    refine K.getF dDM_198 (wd160 hw) F827 ?_
    refine K.iload dDM_201 rfl ?_
    refine K.iaload (v := .int (gc 0)) dDM_203 I830 (by decide) (by decide) rfl ?_
    refine K.istore #[oA a, oA b, oA q, oI (0 : Int32), oI (Int32.ofNat k457), oI (Int32.ofNat 2), oA a459, oA a761, oA a743, oI (0 : Int32), oI (gc 0), oI ((32 : Int32) - (Int32.ofNat k457)), oI (1 : Int32), oI (0 : Int32), oU, oU, oU, oU, oU, oU, oU, oU, oU, oU, oU, oU, oU, oU] dDM_204 rfl ?_
    refine K.aload dDM_206 rfl rfl ?_
    refine K.iload dDM_208 rfl ?_
    refine K.iload dDM_210 rfl ?_
    refine K.iload dDM_212 rfl ?_
    refine K.ishl dDM_214 ?_
    refine K.iload dDM_215 rfl ?_
    refine K.iload dDM_217 rfl ?_
    refine K.iushr dDM_219 ?_
    refine K.ior dDM_220 ?_
    refine K.iastore dDM_221 I837 (by decide) (by decide) g746 (fun h842 W843 A844 => ?_)
    have K845 := K825.wr W843 (Or.inr ks_a743)
    have F846 := F826.other W843 (Or.inl (Nat.ne_of_lt lt_a_a743))
    have F847 := F827.other W843 (Or.inl (Nat.ne_of_lt lt_a_a743))
    have F848 := F828.other W843 (Or.inl (Nat.ne_of_lt lt_a_a743))
    have E849 := E829.wr W843
    have I850 := I830.other W843 (Nat.ne_of_lt lt_mc_a743)
    have E851 := E831.wr W843
    have F852 := F832.other W843 (Or.inl (Nat.ne_of_lt lt_q_a743))
    have F853 := F833.other W843 (Or.inl (Nat.ne_of_lt lt_q_a743))
    have F854 := F834.other W843 (Or.inl (Nat.ne_of_lt lt_q_a743))
    have I855 := I835.other W843 (Nat.ne_of_lt lt_c_a743)
    have I856 := I836.other W843 (Nat.ne_of_lt lt_a459_a743)
    have E857 := E838.wr W843
    have F858 := F839.other W843 (Or.inl (Nat.ne_of_gt lt_a743_a761))
    have F859 := F840.other W843 (Or.inl (Nat.ne_of_gt lt_a743_a761))
    have F860 := F841.other W843 (Or.inl (Nat.ne_of_gt lt_a743_a761))
    refine K.iinc ((2 : Int32)) #[oA a, oA b, oA q, oI (0 : Int32), oI (Int32.ofNat k457), oI (Int32.ofNat 2), oA a459, oA a761, oA a743, oI (0 : Int32), oI (gc 0), oI ((32 : Int32) - (Int32.ofNat k457)), oI (2 : Int32), oI (0 : Int32), oU, oU, oU, oU, oU, oU, oU, oU, oU, oU, oU, oU, oU, oU] dDM_222 rfl rfl rfl ?_
    refine K.iinc ((1 : Int32)) #[oA a, oA b, oA q, oI (0 : Int32), oI (Int32.ofNat k457), oI (Int32.ofNat 2), oA a459, oA a761, oA a743, oI (1 : Int32), oI (gc 0), oI ((32 : Int32) - (Int32.ofNat k457)), oI (2 : Int32), oI (0 : Int32), oU, oU, oU, oU, oU, oU, oU, oU, oU, oU, oU, oU, oU, oU] dDM_225 rfl rfl rfl ?_
    refine K.goto dDM_228 ?_
    refine K.iload dDM_182 rfl ?_
    refine K.aloadN dDM_184 rfl rfl ?_
    refine K.getF dDM_185 (wd162 hw) F848 ?_
    refine K.iconst (1 : Int32) dDM_188 rfl ?_
    refine K.iadd dDM_189 ?_
    refine K.ic_ge dDM_190 (fun _ => ?_) (fun u => absurd (by decide) u)
    refine K.iload dDM_193 rfl ?_
    refine K.istore #[oA a, oA b, oA q, oI (0 : Int32), oI (Int32.ofNat k457), oI (Int32.ofNat 2), oA a459, oA a761, oA a743, oI (1 : Int32), oI (gc 0), oI ((32 : Int32) - (Int32.ofNat k457)), oI (2 : Int32), oI (gc 0), oU, oU, oU, oU, oU, oU, oU, oU, oU, oU, oU, oU, oU, oU] dDM_195 rfl ?_
    refine K.aloadN dDM_197 rfl rfl ?_
    refine K.getF dDM_198 (wd160 hw) F847 ?_
    refine K.iload dDM_201 rfl ?_
    refine K.iaload (v := .int (gc 1)) dDM_203 I850 (by decide) (by decide) rfl ?_
    refine K.istore #[oA a, oA b, oA q, oI (0 : Int32), oI (Int32.ofNat k457), oI (Int32.ofNat 2), oA a459, oA a761, oA a743, oI (1 : Int32), oI (gc 1), oI ((32 : Int32) - (Int32.ofNat k457)), oI (2 : Int32), oI (gc 0), oU, oU, oU, oU, oU, oU, oU, oU, oU, oU, oU, oU, oU, oU] dDM_204 rfl ?_
    refine K.aload dDM_206 rfl rfl ?_
    refine K.iload dDM_208 rfl ?_
    refine K.iload dDM_210 rfl ?_
    refine K.iload dDM_212 rfl ?_
    refine K.ishl dDM_214 ?_
    refine K.iload dDM_215 rfl ?_
    refine K.iload dDM_217 rfl ?_
    refine K.iushr dDM_219 ?_
    refine K.ior dDM_220 ?_
    refine K.iastore dDM_221 A844 (by decide) (by decide) g746 (fun h861 W862 A863 => ?_)
    have K864 := K845.wr W862 (Or.inr ks_a743)
    have F865 := F846.other W862 (Or.inl (Nat.ne_of_lt lt_a_a743))
    have F866 := F847.other W862 (Or.inl (Nat.ne_of_lt lt_a_a743))
    have F867 := F848.other W862 (Or.inl (Nat.ne_of_lt lt_a_a743))
    have E868 := E849.wr W862
    have I869 := I850.other W862 (Nat.ne_of_lt lt_mc_a743)
    have E870 := E851.wr W862
    have F871 := F852.other W862 (Or.inl (Nat.ne_of_lt lt_q_a743))
    have F872 := F853.other W862 (Or.inl (Nat.ne_of_lt lt_q_a743))
    have F873 := F854.other W862 (Or.inl (Nat.ne_of_lt lt_q_a743))
    have I874 := I855.other W862 (Nat.ne_of_lt lt_c_a743)
    have I875 := I856.other W862 (Nat.ne_of_lt lt_a459_a743)
    have E876 := E857.wr W862
    have F877 := F858.other W862 (Or.inl (Nat.ne_of_gt lt_a743_a761))
    have F878 := F859.other W862 (Or.inl (Nat.ne_of_gt lt_a743_a761))
    have F879 := F860.other W862 (Or.inl (Nat.ne_of_gt lt_a743_a761))
    refine K.iinc ((3 : Int32)) #[oA a, oA b, oA q, oI (0 : Int32), oI (Int32.ofNat k457), oI (Int32.ofNat 2), oA a459, oA a761, oA a743, oI (1 : Int32), oI (gc 1), oI ((32 : Int32) - (Int32.ofNat k457)), oI (3 : Int32), oI (gc 0), oU, oU, oU, oU, oU, oU, oU, oU, oU, oU, oU, oU, oU, oU] dDM_222 rfl rfl rfl ?_
    refine K.iinc ((2 : Int32)) #[oA a, oA b, oA q, oI (0 : Int32), oI (Int32.ofNat k457), oI (Int32.ofNat 2), oA a459, oA a761, oA a743, oI (2 : Int32), oI (gc 1), oI ((32 : Int32) - (Int32.ofNat k457)), oI (3 : Int32), oI (gc 0), oU, oU, oU, oU, oU, oU, oU, oU, oU, oU, oU, oU, oU, oU] dDM_225 rfl rfl rfl ?_
    refine K.goto dDM_228 ?_
    refine K.iload dDM_182 rfl ?_
    refine K.aloadN dDM_184 rfl rfl ?_
    refine K.getF dDM_185 (wd162 hw) F867 ?_
    refine K.iconst (1 : Int32) dDM_188 rfl ?_
    refine K.iadd dDM_189 ?_
    refine K.ic_ge dDM_190 (fun _ => ?_) (fun u => absurd (by decide) u)
    refine K.iload dDM_193 rfl ?_
    refine K.istore #[oA a, oA b, oA q, oI (0 : Int32), oI (Int32.ofNat k457), oI (Int32.ofNat 2), oA a459, oA a761, oA a743, oI (2 : Int32), oI (gc 1), oI ((32 : Int32) - (Int32.ofNat k457)), oI (3 : Int32), oI (gc 1), oU, oU, oU, oU, oU, oU, oU, oU, oU, oU, oU, oU, oU, oU] dDM_195 rfl ?_
    refine K.aloadN dDM_197 rfl rfl ?_
    refine K.getF dDM_198 (wd160 hw) F866 ?_
    refine K.iload dDM_201 rfl ?_
    refine K.iaload (v := .int (gc 2)) dDM_203 I869 (by decide) (by decide) rfl ?_
    refine K.istore #[oA a, oA b, oA q, oI (0 : Int32), oI (Int32.ofNat k457), oI (Int32.ofNat 2), oA a459, oA a761, oA a743, oI (2 : Int32), oI (gc 2), oI ((32 : Int32) - (Int32.ofNat k457)), oI (3 : Int32), oI (gc 1), oU, oU, oU, oU, oU, oU, oU, oU, oU, oU, oU, oU, oU, oU] dDM_204 rfl ?_
    refine K.aload dDM_206 rfl rfl ?_
    refine K.iload dDM_208 rfl ?_
    refine K.iload dDM_210 rfl ?_
    refine K.iload dDM_212 rfl ?_
    refine K.ishl dDM_214 ?_
    refine K.iload dDM_215 rfl ?_
    refine K.iload dDM_217 rfl ?_
    refine K.iushr dDM_219 ?_
    refine K.ior dDM_220 ?_
    refine K.iastore dDM_221 A863 (by decide) (by decide) g746 (fun h880 W881 A882 => ?_)
    have K883 := K864.wr W881 (Or.inr ks_a743)
    have F884 := F865.other W881 (Or.inl (Nat.ne_of_lt lt_a_a743))
    have F885 := F866.other W881 (Or.inl (Nat.ne_of_lt lt_a_a743))
    have F886 := F867.other W881 (Or.inl (Nat.ne_of_lt lt_a_a743))
    have E887 := E868.wr W881
    have I888 := I869.other W881 (Nat.ne_of_lt lt_mc_a743)
    have E889 := E870.wr W881
    have F890 := F871.other W881 (Or.inl (Nat.ne_of_lt lt_q_a743))
    have F891 := F872.other W881 (Or.inl (Nat.ne_of_lt lt_q_a743))
    have F892 := F873.other W881 (Or.inl (Nat.ne_of_lt lt_q_a743))
    have I893 := I874.other W881 (Nat.ne_of_lt lt_c_a743)
    have I894 := I875.other W881 (Nat.ne_of_lt lt_a459_a743)
    have E895 := E876.wr W881
    have F896 := F877.other W881 (Or.inl (Nat.ne_of_gt lt_a743_a761))
    have F897 := F878.other W881 (Or.inl (Nat.ne_of_gt lt_a743_a761))
    have F898 := F879.other W881 (Or.inl (Nat.ne_of_gt lt_a743_a761))
    refine K.iinc ((4 : Int32)) #[oA a, oA b, oA q, oI (0 : Int32), oI (Int32.ofNat k457), oI (Int32.ofNat 2), oA a459, oA a761, oA a743, oI (2 : Int32), oI (gc 2), oI ((32 : Int32) - (Int32.ofNat k457)), oI (4 : Int32), oI (gc 1), oU, oU, oU, oU, oU, oU, oU, oU, oU, oU, oU, oU, oU, oU] dDM_222 rfl rfl rfl ?_
    refine K.iinc ((3 : Int32)) #[oA a, oA b, oA q, oI (0 : Int32), oI (Int32.ofNat k457), oI (Int32.ofNat 2), oA a459, oA a761, oA a743, oI (3 : Int32), oI (gc 2), oI ((32 : Int32) - (Int32.ofNat k457)), oI (4 : Int32), oI (gc 1), oU, oU, oU, oU, oU, oU, oU, oU, oU, oU, oU, oU, oU, oU] dDM_225 rfl rfl rfl ?_
    refine K.goto dDM_228 ?_
    refine K.iload dDM_182 rfl ?_
    refine K.aloadN dDM_184 rfl rfl ?_
    refine K.getF dDM_185 (wd162 hw) F886 ?_
    refine K.iconst (1 : Int32) dDM_188 rfl ?_
    refine K.iadd dDM_189 ?_
    refine K.ic_ge dDM_190 (fun u => absurd u (by decide)) (fun _ => ?_)
    refine K.aload dDM_231 rfl rfl ?_
    refine K.aloadN dDM_233 rfl rfl ?_
    refine K.getF dDM_234 (wd162 hw) F886 ?_
    refine K.iconst (1 : Int32) dDM_237 rfl ?_
    refine K.iadd dDM_238 ?_
    show Wk E h880 3 10 239 #[oA a, oA b, oA q, oI (0 : Int32), oI (Int32.ofNat k457), oI (Int32.ofNat 2), oA a459, oA a761, oA a743, oI (3 : Int32), oI (gc 2), oI ((32 : Int32) - (Int32.ofNat k457)), oI (4 : Int32), oI (gc 1), oU, oU, oU, oU, oU, oU, oU, oU, oU, oU, oU, oU, oU, oU] [.int 4, .ref a743]
    refine K.iload dDM_239 rfl ?_
    refine K.iload dDM_241 rfl ?_
    refine K.ishl dDM_243 ?_
    refine K.iastore dDM_244 A882 (by decide) (by decide) g746 (fun h899 W900 A901 => ?_)
    have K902 := K883.wr W900 (Or.inr ks_a743)
    have F903 := F884.other W900 (Or.inl (Nat.ne_of_lt lt_a_a743))
    have F904 := F885.other W900 (Or.inl (Nat.ne_of_lt lt_a_a743))
    have F905 := F886.other W900 (Or.inl (Nat.ne_of_lt lt_a_a743))
    have E906 := E887.wr W900
    have I907 := I888.other W900 (Nat.ne_of_lt lt_mc_a743)
    have E908 := E889.wr W900
    have F909 := F890.other W900 (Or.inl (Nat.ne_of_lt lt_q_a743))
    have F910 := F891.other W900 (Or.inl (Nat.ne_of_lt lt_q_a743))
    have F911 := F892.other W900 (Or.inl (Nat.ne_of_lt lt_q_a743))
    have I912 := I893.other W900 (Nat.ne_of_lt lt_c_a743)
    have I913 := I894.other W900 (Nat.ne_of_lt lt_a459_a743)
    have E914 := E895.wr W900
    have F915 := F896.other W900 (Or.inl (Nat.ne_of_gt lt_a743_a761))
    have F916 := F897.other W900 (Or.inl (Nat.ne_of_gt lt_a743_a761))
    have F917 := F898.other W900 (Or.inl (Nat.ne_of_gt lt_a743_a761))
    refine K.goto dDM_245 ?_
    refine K.aload dDM_323 rfl rfl ?_
    refine K.getF dDM_325 (wd162 hw) F917 ?_
    refine K.istore #[oA a, oA b, oA q, oI (0 : Int32), oI (Int32.ofNat k457), oI (Int32.ofNat 2), oA a459, oA a761, oI (Int32.ofNat 4), oI (3 : Int32), oI (gc 2), oI ((32 : Int32) - (Int32.ofNat k457)), oI (4 : Int32), oI (gc 1), oU, oU, oU, oU, oU, oU, oU, oU, oU, oU, oU, oU, oU, oU] dDM_328 rfl ?_
    refine K.iload dDM_330 rfl ?_
    refine K.iload dDM_332 rfl ?_
    refine K.isub dDM_334 ?_
    refine K.iconst (1 : Int32) dDM_335 rfl ?_
    refine K.iadd dDM_336 ?_
    show Wk E h899 3 10 337 #[oA a, oA b, oA q, oI (0 : Int32), oI (Int32.ofNat k457), oI (Int32.ofNat 2), oA a459, oA a761, oI (Int32.ofNat 4), oI (3 : Int32), oI (gc 2), oI ((32 : Int32) - (Int32.ofNat k457)), oI (4 : Int32), oI (gc 1), oU, oU, oU, oU, oU, oU, oU, oU, oU, oU, oU, oU, oU, oU] [.int 3]
    refine K.istore #[oA a, oA b, oA q, oI (0 : Int32), oI (Int32.ofNat k457), oI (Int32.ofNat 2), oA a459, oA a761, oI (Int32.ofNat 4), oI (3 : Int32), oI (gc 2), oI ((32 : Int32) - (Int32.ofNat k457)), oI (4 : Int32), oI (gc 1), oU, oU, oU, oU, oU, oU, oU, oU, oU, oU, oU, oU, oU, oU] dDM_337 rfl ?_
    refine K.aloadN dDM_339 rfl rfl ?_
    refine K.getF dDM_340 (wd160 hw) F910 ?_
    refine K.arraylength dDM_343 I912 ?_
    refine K.iload dDM_344 rfl ?_
    refine K.ic_ge dDM_346 (fun _ => ?_) (fun u => absurd (by decide) u)
    refine K.aloadN dDM_349 rfl rfl ?_
    refine K.iload dDM_350 rfl ?_
    refine K.newP (ty := .int) (dv := .int 0) 3 4 13 dDM_352 (wd109 hw) rfl rfl (by decide) (by decide) (by decide) rfl rfl (by decide) (by decide) (fun h919 a918 ha920 g921 X922 A923 => ?_)
    have ks_a918 := ha_ge K902.1 ha920
    have lt_a_a918 : a < a918 := by rw [ha920]; exact E906.lt
    have lt_a459_a918 : a459 < a918 := by rw [ha920]; exact I913.lt
    have lt_a743_a918 : a743 < a918 := by rw [ha920]; exact A901.lt
    have lt_a761_a918 : a761 < a918 := by rw [ha920]; exact E914.lt
    have lt_q_a918 : q < a918 := by rw [ha920]; exact E908.lt
    have K924 := K902.ext X922
    have E925 := E906.ext X922
    have E926 := E908.ext X922
    have F927 := F909.ext X922
    have F928 := F910.ext X922
    have F929 := F911.ext X922
    have I930 := I913.ext X922
    have I931 := A901.ext X922
    have E932 := E914.ext X922
    have F933 := F915.ext X922
    have F934 := F916.ext X922
    have F935 := F917.ext X922
    refine K.putF dDM_354 (wd160 hw) F928 E926 (Or.inl (wd161 hw)) (wd151 hw) (ty := (.array .int)) (by decide) rfl rfl geq (fun h936 W937 => ?_)
    have K938 := K924.wr W937 (Or.inl (mg 0 rfl))
    have E939 := E925.wr W937
    have E940 := E926.wr W937
    have F941 := F927.other W937 (Or.inr (sn30 hw))
    have F942 := F928.same W937
    have F943 := F929.other W937 (Or.inr (sn31 hw))
    have I944 := I930.other W937 (Nat.ne_of_gt lt_q_a459)
    have I945 := I931.other W937 (Nat.ne_of_gt lt_q_a743)
    have E946 := E932.wr W937
    have F947 := F933.other W937 (Or.inl (Nat.ne_of_gt lt_q_a761))
    have F948 := F934.other W937 (Or.inl (Nat.ne_of_gt lt_q_a761))
    have F949 := F935.other W937 (Or.inl (Nat.ne_of_gt lt_q_a761))
    have I950 := A923.other W937 (Nat.ne_of_gt lt_q_a918)
    refine K.aloadN dDM_357 rfl rfl ?_
    refine K.iconst (0 : Int32) dDM_358 rfl ?_
    refine K.putF dDM_359 (wd158 hw) F941 E940 (Or.inl (wd159 hw)) (wd151 hw) (ty := .int) (by decide) rfl rfl geq (fun h951 W952 => ?_)
    have K953 := K938.wr W952 (Or.inl (mg 0 rfl))
    have E954 := E939.wr W952
    have E955 := E940.wr W952
    have F956 := F941.same W952
    have F957 := F942.other W952 (Or.inr (sn28 hw))
    have F958 := F943.other W952 (Or.inr (sn29 hw))
    have I959 := I944.other W952 (Nat.ne_of_gt lt_q_a459)
    have I960 := I945.other W952 (Nat.ne_of_gt lt_q_a743)
    have E961 := E946.wr W952
    have F962 := F947.other W952 (Or.inl (Nat.ne_of_gt lt_q_a761))
    have F963 := F948.other W952 (Or.inl (Nat.ne_of_gt lt_q_a761))
    have F964 := F949.other W952 (Or.inl (Nat.ne_of_gt lt_q_a761))
    have I965 := I950.other W952 (Nat.ne_of_gt lt_q_a918)
    refine K.aloadN dDM_362 rfl rfl ?_
    refine K.iload dDM_363 rfl ?_
    refine K.putF dDM_365 (wd162 hw) F958 E955 (Or.inl (wd163 hw)) (wd151 hw) (ty := .int) (by decide) rfl rfl geq (fun h966 W967 => ?_)
    have K968 := K953.wr W967 (Or.inl (mg 0 rfl))
    have E969 := E954.wr W967
    have E970 := E955.wr W967
    have F971 := F956.other W967 (Or.inr (sn32 hw))
    have F972 := F957.other W967 (Or.inr (sn33 hw))
    have F973 := F958.same W967
    have I974 := I959.other W967 (Nat.ne_of_gt lt_q_a459)
    have I975 := I960.other W967 (Nat.ne_of_gt lt_q_a743)
    have E976 := E961.wr W967
    have F977 := F962.other W967 (Or.inl (Nat.ne_of_gt lt_q_a761))
    have F978 := F963.other W967 (Or.inl (Nat.ne_of_gt lt_q_a761))
    have F979 := F964.other W967 (Or.inl (Nat.ne_of_gt lt_q_a761))
    have I980 := I965.other W967 (Nat.ne_of_gt lt_q_a918)
    refine K.aloadN dDM_368 rfl rfl ?_
    refine K.getF dDM_369 (wd160 hw) F972 ?_
    refine K.astore #[oA a, oA b, oA q, oI (0 : Int32), oI (Int32.ofNat k457), oI (Int32.ofNat 2), oA a459, oA a761, oI (Int32.ofNat 4), oI (3 : Int32), oA a918, oI ((32 : Int32) - (Int32.ofNat k457)), oI (4 : Int32), oI (gc 1), oU, oU, oU, oU, oU, oU, oU, oU, oU, oU, oU, oU, oU, oU] dDM_372 rfl rfl ?_
    refine K.aload dDM_374 rfl rfl ?_
    refine K.iconst (0 : Int32) dDM_376 rfl ?_
    refine K.putF dDM_377 (wd158 hw) F977 E976 (Or.inl (wd159 hw)) (wd151 hw) (ty := .int) (by decide) rfl rfl g764 (fun h981 W982 => ?_)
    have K983 := K968.wr W982 (Or.inr ks_a761)
    have E984 := E969.wr W982
    have E985 := E970.wr W982
    have F986 := F971.other W982 (Or.inl (Nat.ne_of_lt lt_q_a761))
    have F987 := F972.other W982 (Or.inl (Nat.ne_of_lt lt_q_a761))
    have F988 := F973.other W982 (Or.inl (Nat.ne_of_lt lt_q_a761))
    have I989 := I974.other W982 (Nat.ne_of_lt lt_a459_a761)
    have I990 := I975.other W982 (Nat.ne_of_lt lt_a743_a761)
    have E991 := E976.wr W982
    have F992 := F977.same W982
    have F993 := F978.other W982 (Or.inr (sn28 hw))
    have F994 := F979.other W982 (Or.inr (sn29 hw))
    have I995 := I980.other W982 (Nat.ne_of_gt lt_a761_a918)
    refine K.aload dDM_380 rfl rfl ?_
    refine K.getF dDM_382 (wd160 hw) F993 ?_
    refine K.iconst (0 : Int32) dDM_385 rfl ?_
    refine K.iconst (0 : Int32) dDM_386 rfl ?_
    refine K.iastore dDM_387 I990 (by decide) (by decide) g746 (fun h996 W997 A998 => ?_)
    have K999 := K983.wr W997 (Or.inr ks_a743)
    have E1000 := E984.wr W997
    have E1001 := E985.wr W997
    have F1002 := F986.other W997 (Or.inl (Nat.ne_of_lt lt_q_a743))
    have F1003 := F987.other W997 (Or.inl (Nat.ne_of_lt lt_q_a743))
    have F1004 := F988.other W997 (Or.inl (Nat.ne_of_lt lt_q_a743))
    have I1005 := I989.other W997 (Nat.ne_of_lt lt_a459_a743)
    have E1006 := E991.wr W997
    have F1007 := F992.other W997 (Or.inl (Nat.ne_of_gt lt_a743_a761))
    have F1008 := F993.other W997 (Or.inl (Nat.ne_of_gt lt_a743_a761))
    have F1009 := F994.other W997 (Or.inl (Nat.ne_of_gt lt_a743_a761))
    have I1010 := I995.other W997 (Nat.ne_of_gt lt_a743_a918)
    obtain ⟨gf1011, A1012, E1013⟩ := own_toF A998 (own_ifI (own_ifI (own_ifI (own_ifI (own_ifI zero_int _ _) _ _) _ _) _ _) _ _)
    refine K.aload dDM_388 rfl rfl ?_
    refine K.dup dDM_390 rfl ?_
    refine K.getF dDM_391 (wd162 hw) F1009 ?_
    refine K.iconst (1 : Int32) dDM_394 rfl ?_
    refine K.iadd dDM_395 ?_
    refine K.putF dDM_396 (wd162 hw) F1009 E1006 (Or.inl (wd163 hw)) (wd151 hw) (ty := .int) (by decide) rfl rfl g764 (fun h1014 W1015 => ?_)
    have K1016 := K999.wr W1015 (Or.inr ks_a761)
    have E1017 := E1000.wr W1015
    have E1018 := E1001.wr W1015
    have F1019 := F1002.other W1015 (Or.inl (Nat.ne_of_lt lt_q_a761))
    have F1020 := F1003.other W1015 (Or.inl (Nat.ne_of_lt lt_q_a761))
    have F1021 := F1004.other W1015 (Or.inl (Nat.ne_of_lt lt_q_a761))
    have I1022 := I1005.other W1015 (Nat.ne_of_lt lt_a459_a761)
    have I1023 := A1012.other W1015 (Nat.ne_of_lt lt_a743_a761)
    have E1024 := E1006.wr W1015
    have F1025 := F1007.other W1015 (Or.inr (sn32 hw))
    have F1026 := F1008.other W1015 (Or.inr (sn33 hw))
    have F1027 := F1009.same W1015
    have I1028 := I1010.other W1015 (Nat.ne_of_gt lt_a761_a918)
    refine K.aload dDM_399 rfl rfl ?_
    refine K.iconst (0 : Int32) dDM_401 rfl ?_
    refine K.iaload (v := .int (gf499 0)) dDM_402 I1022 (by decide) (by decide) rfl ?_
    refine K.istore #[oA a, oA b, oA q, oI (0 : Int32), oI (Int32.ofNat k457), oI (Int32.ofNat 2), oA a459, oA a761, oI (Int32.ofNat 4), oI (3 : Int32), oA a918, oI (gf499 0), oI (4 : Int32), oI (gc 1), oU, oU, oU, oU, oU, oU, oU, oU, oU, oU, oU, oU, oU, oU] dDM_403 rfl ?_
    refine K.iload dDM_405 rfl ?_
    refine K.i2l dDM_407 ?_
    refine K.ldc2J dDM_408 (wd187 hw) ?_
    refine K.land dDM_411 ?_
    obtain ⟨D, eD⟩ : ∃ x_ : Int64, x_ = ((gf499 0).toInt64) &&& (4294967295 : Int64) := ⟨_, rfl⟩
    rw [← eD]
    have hD := m32 (gf499 0)
    rw [← eD] at hD
    refine K.lstore #[oA a, oA b, oA q, oI (0 : Int32), oI (Int32.ofNat k457), oI (Int32.ofNat 2), oA a459, oA a761, oI (Int32.ofNat 4), oI (3 : Int32), oA a918, oI (gf499 0), oJ D, oT, oU, oU, oU, oU, oU, oU, oU, oU, oU, oU, oU, oU, oU, oU] dDM_412 rfl ?_
    refine K.aload dDM_414 rfl rfl ?_
    refine K.iconst (1 : Int32) dDM_416 rfl ?_
    refine K.iaload (v := .int (gf499 1)) dDM_417 I1022 (by decide) (by decide) rfl ?_
    refine K.istore #[oA a, oA b, oA q, oI (0 : Int32), oI (Int32.ofNat k457), oI (Int32.ofNat 2), oA a459, oA a761, oI (Int32.ofNat 4), oI (3 : Int32), oA a918, oI (gf499 0), oJ D, oT, oI (gf499 1), oU, oU, oU, oU, oU, oU, oU, oU, oU, oU, oU, oU, oU] dDM_418 rfl ?_
    refine K.iconst (0 : Int32) dDM_420 rfl ?_
    refine K.istore #[oA a, oA b, oA q, oI (0 : Int32), oI (Int32.ofNat k457), oI (Int32.ofNat 2), oA a459, oA a761, oI (Int32.ofNat 4), oI (3 : Int32), oA a918, oI (gf499 0), oJ D, oT, oI (gf499 1), oI (0 : Int32), oU, oU, oU, oU, oU, oU, oU, oU, oU, oU, oU, oU] dDM_421 rfl ?_
    have ev1029 : gf1011 0 = 0 := Value.int.inj ((E1013 0).symm)
    have ev1030 : gf1011 1 = ((0 : Int32) <<< (Int32.ofNat k457 &&& 31)) ||| ((gc 0).toUInt32 >>> (((32 : Int32) - Int32.ofNat k457) &&& 31).toUInt32).toInt32 := Value.int.inj ((E1013 1).symm)
    have hg1 : 1 ≤ uv (gf1011 1) := by
      rw [ev1030, sh_word _ _ hs1 hs2]
      exact own_r3 t1 hs1
    have hq_ : (fun _ : Nat => (0 : Int32)) 0 = 0 := rfl
    exact J0 h1014 a459 a743 a761 a918 k457 gf1011 (fun _ => 0) gf499 D E1017 F1025 F1026 I1022 I1023 E1018 F1019 F1020 F1021 I1028 K1016 g746 g921 ks_a743 ks_a918 (Nat.ne_of_gt lt_a459_a743) (Nat.ne_of_gt lt_a743_a761) (Nat.ne_of_lt lt_a761_a918) (Nat.ne_of_gt lt_a743_a918) (Nat.ne_of_lt lt_a459_a918) (Nat.ne_of_lt lt_q_a743) (Nat.ne_of_lt lt_q_a918) (Nat.ne_of_gt lt_q_a761) (Nat.ne_of_gt lt_q_a459) (Nat.ne_of_gt lt_q_a743) hdh hD ev1029 hg1 hq_
theorem rmMK (l : Launch) (Z : State) (a0 : Array Value) (hw : Hw Z a0) (a b q mc md c : Addr) (kc kd : Nat) (gc gd : Nat → Int32) (f : Int32 → Value) (h : Heap) (n0 : Nat) (PE : Exa Z h a "java/math/MutableBigInteger") (P1 : Fld Z h a "java/math/MutableBigInteger" "offset" "I" (.int 0)) (P2 : Fld Z h a "java/math/MutableBigInteger" "value" "[I" (.ref mc)) (P3 : Fld Z h a "java/math/MutableBigInteger" "intLen" "I" (.int (Int32.ofNat kc))) (PA : Ia Z h mc .int (Int32.ofNat kc) (intF gc)) (B1 : Fld Z h b "java/math/MutableBigInteger" "offset" "I" (.int 0)) (B2 : Fld Z h b "java/math/MutableBigInteger" "value" "[I" (.ref md)) (B3 : Fld Z h b "java/math/MutableBigInteger" "intLen" "I" (.int (Int32.ofNat kd))) (BA : Ia Z h md .int (Int32.ofNat kd) (intF gd)) (QE : Exa Z h q "java/math/MutableBigInteger") (Q1 : Fld Z h q "java/math/MutableBigInteger" "offset" "I" (.int 0)) (Q2 : Fld Z h q "java/math/MutableBigInteger" "value" "[I" (.ref c)) (Q3 : Fld Z h q "java/math/MutableBigInteger" "intLen" "I" (.int 0)) (CA : Ia Z h c .int 1 f) (geq : n0 ≤ q) (gec : n0 ≤ c) (n_a_q : a ≠ q) (n_b_q : b ≠ q) (n_mc_q : mc ≠ q) (n_md_q : md ≠ q) (n_a_c : a ≠ c) (n_b_c : b ≠ c) (n_mc_c : mc ≠ c) (n_md_c : md ≠ c) (n_c_q : c ≠ q) (hDv : DivOk kc kd (uv (gc 0)) (uv (gd 0))) : Con l Z ⟨"java/math/MutableBigInteger", "divideKnuth", "(Ljava/math/MutableBigInteger;Ljava/math/MutableBigInteger;Z)Ljava/math/MutableBigInteger;"⟩ jdk_2101_method_57_code 8 (some (.object "java/math/MutableBigInteger")) ⟨3, 4, 13, 65⟩ #[.ref a, .ref b, .ref q, .int 0] h n0 (fun vr h' => vr = some .null ∧ (Keep h h' [q, c] ∧ ∃ (m_ : Addr) (i_ k_ : Nat) (g_ : Nat → Int32), h.size ≤ m_ ∧ n0 ≤ m_ ∧ i_ ≤ 1 ∧ i_ + 2 ≤ k_ ∧ k_ ≤ 4 ∧ (Fld Z h' q "java/math/MutableBigInteger" "offset" "I" (.int (Int32.ofNat i_)) ∧ Fld Z h' q "java/math/MutableBigInteger" "value" "[I" (.ref m_) ∧ Fld Z h' q "java/math/MutableBigInteger" "intLen" "I" (.int (Int32.ofNat (k_ - i_)))) ∧ Ia Z h' m_ .int (Int32.ofNat k_) (intF g_))) := by
  refine Con.of pnMK (fun m_ => efMK m_ a b q (0 : Int32)) (fun E K => ?_)
  have K1 : Keep h h [q, c] := Keep.refl _ _
  rcases hDv with ⟨rfl, hO⟩ | ⟨rfl, hT⟩
  · have hkc : 1 < kc ∧ kc ≤ 4 := by rcases hO with ⟨t0, -, -⟩ | ⟨t0, -, -⟩ <;> omega
    refine K.aloadN dMK_0 rfl rfl ?_
    refine K.getF dMK_1 (wd162 hw) B3 ?_
    refine K.if_ne dMK_4 (fun u => absurd u (by decide)) (fun _ => ?_)
    refine K.aloadN dMK_17 rfl rfl ?_
    refine K.getF dMK_18 (wd162 hw) P3 ?_
    refine K.if_ne dMK_21 (fun u => absurd u (fun q => absurd (own_inj (j := 0) (by omega) (by decide) q) (by omega))) (fun _ => ?_)
    refine K.aloadN dMK_50 rfl rfl ?_
    refine K.aloadN dMK_51 rfl rfl ?_
    refine K.callV (a := a) [.ref b] [] 0 0 0 dMK_52 (wd172 hw) (wd173 hw) (wd175 hw) (wd174 hw) (wd152 hw) (wd176 hw) (by decide) (rmCP l Z a0 hw a b (Int32.ofNat kc) (Int32.ofNat 1) h n0 P3 B3 ((own_lt (by decide) (by omega)).mpr (by omega)) (fun q => absurd ((own_lt (by omega) (by decide)).mp q) (by omega))) PE rfl (lenOf pd_23 rfl) rfl (Nat.le_of_eq rfl) (by decide) (by decide) rfl rfl (by decide) (by decide) (goP ?_)
    refine K.istore #[oA a, oA b, oA q, oI (0 : Int32), oI (1 : Int32), oU, oU, oU] dMK_55 rfl ?_
    refine K.iload dMK_57 rfl ?_
    refine K.if_ge dMK_59 (fun u => absurd u (by decide)) (fun _ => ?_)
    refine K.iload dMK_89 rfl ?_
    refine K.if_ne dMK_91 (fun u => absurd u (by decide)) (fun _ => ?_)
    refine K.aloadN dMK_127 rfl rfl ?_
    refine K.callV (a := q) [] [] 0 0 0 dMK_128 (wd177 hw) (wd178 hw) (wd180 hw) (wd179 hw) (wd152 hw) (wd181 hw) (by decide) (rmCL l Z a0 hw q c (0 : Int32) (0 : Int32) f h n0 QE Q1 Q2 Q3 CA geq gec n_c_q) QE rfl (lenOf pd_5 rfl) rfl (Nat.le_of_eq rfl) (by decide) (by decide) rfl rfl (by decide) (by decide) (goU fun h2 q3 => ?_)
    obtain ⟨K4, F5, F6, F7, I8⟩ := q3
    have K9 := K1.trans K4 (allS (Or.inl (mg 0 rfl)) (allS (Or.inl (mg 1 rfl)) all0))
    have F10 := P1.keep K4 (ninS n_a_q (ninS n_a_c nin0))
    have F11 := P2.keep K4 (ninS n_a_q (ninS n_a_c nin0))
    have F12 := P3.keep K4 (ninS n_a_q (ninS n_a_c nin0))
    have E13 := PE.keep K4
    have I14 := PA.keep K4 (ninS n_mc_q (ninS n_mc_c nin0))
    have F15 := B1.keep K4 (ninS n_b_q (ninS n_b_c nin0))
    have F16 := B2.keep K4 (ninS n_b_q (ninS n_b_c nin0))
    have F17 := B3.keep K4 (ninS n_b_q (ninS n_b_c nin0))
    have I18 := BA.keep K4 (ninS n_md_q (ninS n_md_c nin0))
    have E19 := QE.keep K4
    refine K.aloadN dMK_131 rfl rfl ?_
    refine K.getF dMK_132 (wd162 hw) F17 ?_
    refine K.iconst (1 : Int32) dMK_135 rfl ?_
    refine K.ic_ne dMK_136 (fun _ => ?_) (fun u => absurd (by decide) u)
    refine K.aloadN dMK_139 rfl rfl ?_
    refine K.aloadN dMK_140 rfl rfl ?_
    refine K.getF dMK_141 (wd160 hw) F16 ?_
    refine K.aloadN dMK_144 rfl rfl ?_
    refine K.getF dMK_145 (wd158 hw) F15 ?_
    refine K.iaload (v := .int (gd 0)) dMK_148 I18 (by decide) (by decide) rfl ?_
    refine K.aloadN dMK_149 rfl rfl ?_
    refine K.callV (a := a) [.int (gd 0), .ref q] [] 0 1 3 dMK_150 (wd182 hw) (wd183 hw) (wd185 hw) (wd184 hw) (wd152 hw) (wd186 hw) (by decide) (rmD1 l Z a0 hw a q mc c (gd 0) kc gc (fun k_ => if k_ = (0 : Int32) then .int 0 else f k_) h2 n0 F10 F11 F12 I14 E19 F5 F6 F7 I8 geq n_a_q n_mc_q n_c_q hO) E13 rfl (lenOf pd_24 rfl) rfl (Nat.le_of_eq rfl) (by decide) (by decide) rfl rfl (by decide) (by decide) (goI fun z20 h21 q22 => ?_)
    obtain ⟨K23, m24, i25, k26, gf27, g28, e29, hi30, hi31, hi32, ⟨F33, F34, F35⟩, A36⟩ := q22
    have lt_a_m24 : a < m24 := Nat.lt_of_lt_of_le F10.lt g28
    have lt_b_m24 : b < m24 := Nat.lt_of_lt_of_le F15.lt g28
    have lt_c_m24 : c < m24 := Nat.lt_of_lt_of_le I8.lt g28
    have lt_mc_m24 : mc < m24 := Nat.lt_of_lt_of_le I14.lt g28
    have lt_md_m24 : md < m24 := Nat.lt_of_lt_of_le I18.lt g28
    have lt_q_m24 : q < m24 := Nat.lt_of_lt_of_le E19.lt g28
    have ks37 := Nat.le_trans K9.1 g28
    have K38 := K9.trans K23 (allS (Or.inl (mg 0 rfl)) all0)
    have F39 := F10.keep K23 (ninS n_a_q nin0)
    have F40 := F11.keep K23 (ninS n_a_q nin0)
    have F41 := F12.keep K23 (ninS n_a_q nin0)
    have E42 := E13.keep K23
    have I43 := I14.keep K23 (ninS n_mc_q nin0)
    have F44 := F15.keep K23 (ninS n_b_q nin0)
    have F45 := F16.keep K23 (ninS n_b_q nin0)
    have F46 := F17.keep K23 (ninS n_b_q nin0)
    have I47 := I18.keep K23 (ninS n_md_q nin0)
    have E48 := E19.keep K23
    have I49 := I8.keep K23 (ninS n_c_q nin0)
    refine K.istore #[oA a, oA b, oA q, oI (0 : Int32), oI (1 : Int32), oI z20, oU, oU] dMK_153 rfl ?_
    refine K.iloadN dMK_155 rfl ?_
    refine K.if_eq dMK_156 (fun _ => ?_) (fun u => absurd rfl u)
    refine K.aconst_null dMK_182 ?_
    exact K.areturn dMK_183 rfl rfl rfl (by decide) (by decide) ⟨rfl, K38, m24, i25, k26, gf27, ks37, e29, hi30, hi31, hi32, ⟨F33, F34, F35⟩, A36⟩
  · have hkc : 2 < kc ∧ kc ≤ 4 := by rcases hT with ⟨t0, -, -, -⟩ | ⟨t0, -, -⟩ <;> omega
    refine K.aloadN dMK_0 rfl rfl ?_
    refine K.getF dMK_1 (wd162 hw) B3 ?_
    refine K.if_ne dMK_4 (fun u => absurd u (by decide)) (fun _ => ?_)
    refine K.aloadN dMK_17 rfl rfl ?_
    refine K.getF dMK_18 (wd162 hw) P3 ?_
    refine K.if_ne dMK_21 (fun u => absurd u (fun q => absurd (own_inj (j := 0) (by omega) (by decide) q) (by omega))) (fun _ => ?_)
    refine K.aloadN dMK_50 rfl rfl ?_
    refine K.aloadN dMK_51 rfl rfl ?_
    refine K.callV (a := a) [.ref b] [] 0 0 0 dMK_52 (wd172 hw) (wd173 hw) (wd175 hw) (wd174 hw) (wd152 hw) (wd176 hw) (by decide) (rmCP l Z a0 hw a b (Int32.ofNat kc) (Int32.ofNat 2) h n0 P3 B3 ((own_lt (by decide) (by omega)).mpr (by omega)) (fun q => absurd ((own_lt (by omega) (by decide)).mp q) (by omega))) PE rfl (lenOf pd_23 rfl) rfl (Nat.le_of_eq rfl) (by decide) (by decide) rfl rfl (by decide) (by decide) (goP ?_)
    refine K.istore #[oA a, oA b, oA q, oI (0 : Int32), oI (1 : Int32), oU, oU, oU] dMK_55 rfl ?_
    refine K.iload dMK_57 rfl ?_
    refine K.if_ge dMK_59 (fun u => absurd u (by decide)) (fun _ => ?_)
    refine K.iload dMK_89 rfl ?_
    refine K.if_ne dMK_91 (fun u => absurd u (by decide)) (fun _ => ?_)
    refine K.aloadN dMK_127 rfl rfl ?_
    refine K.callV (a := q) [] [] 0 0 0 dMK_128 (wd177 hw) (wd178 hw) (wd180 hw) (wd179 hw) (wd152 hw) (wd181 hw) (by decide) (rmCL l Z a0 hw q c (0 : Int32) (0 : Int32) f h n0 QE Q1 Q2 Q3 CA geq gec n_c_q) QE rfl (lenOf pd_5 rfl) rfl (Nat.le_of_eq rfl) (by decide) (by decide) rfl rfl (by decide) (by decide) (goU fun h50 q51 => ?_)
    obtain ⟨K52, F53, F54, F55, I56⟩ := q51
    have K57 := K1.trans K52 (allS (Or.inl (mg 0 rfl)) (allS (Or.inl (mg 1 rfl)) all0))
    have F58 := P1.keep K52 (ninS n_a_q (ninS n_a_c nin0))
    have F59 := P2.keep K52 (ninS n_a_q (ninS n_a_c nin0))
    have F60 := P3.keep K52 (ninS n_a_q (ninS n_a_c nin0))
    have E61 := PE.keep K52
    have I62 := PA.keep K52 (ninS n_mc_q (ninS n_mc_c nin0))
    have F63 := B1.keep K52 (ninS n_b_q (ninS n_b_c nin0))
    have F64 := B2.keep K52 (ninS n_b_q (ninS n_b_c nin0))
    have F65 := B3.keep K52 (ninS n_b_q (ninS n_b_c nin0))
    have I66 := BA.keep K52 (ninS n_md_q (ninS n_md_c nin0))
    have E67 := QE.keep K52
    refine K.aloadN dMK_131 rfl rfl ?_
    refine K.getF dMK_132 (wd162 hw) F65 ?_
    refine K.iconst (1 : Int32) dMK_135 rfl ?_
    refine K.ic_ne dMK_136 (fun u => absurd u (by decide)) (fun _ => ?_)
    refine K.aloadN dMK_184 rfl rfl ?_
    refine K.getF dMK_185 (wd162 hw) F60 ?_
    refine K.bipush (6 : Int32) dMK_188 rfl ?_
    refine K.ic_lt dMK_190 (fun _ => ?_) (fun u => absurd ((own_lt (j := 6) (by omega) (by decide)).mpr (by omega)) u)
    refine K.aloadN dMK_264 rfl rfl ?_
    refine K.aloadN dMK_265 rfl rfl ?_
    refine K.aloadN dMK_266 rfl rfl ?_
    refine K.iloadN dMK_267 rfl ?_
    refine K.callP (a := a) [.ref b, .ref q, .int 0] [] 0 4 13 dMK_268 (wd251 hw) (wd253 hw) (wd254 hw) (wd252 hw) (wd152 hw) (wd255 hw) (by decide) (rmDM l Z a0 hw a b q mc md c kc gc gd (fun k_ => if k_ = (0 : Int32) then .int 0 else f k_) h50 n0 E61 F58 F59 F60 I62 F63 F64 F65 I66 E67 F53 F54 F55 I56 geq n_a_q n_b_q n_mc_q n_md_q n_c_q hT) E61 rfl (lenOf pd_25 rfl) rfl (Nat.le_of_eq rfl) (by decide) (by decide) rfl rfl (by decide) (by decide) (goV fun h68 q69 => ?_)
    obtain ⟨K70, m71, i72, k73, gf74, g75, e76, hi77, hi78, hi79, ⟨F80, F81, F82⟩, A83⟩ := q69
    have lt_a_m71 : a < m71 := Nat.lt_of_lt_of_le F58.lt g75
    have lt_b_m71 : b < m71 := Nat.lt_of_lt_of_le F63.lt g75
    have lt_c_m71 : c < m71 := Nat.lt_of_lt_of_le I56.lt g75
    have lt_mc_m71 : mc < m71 := Nat.lt_of_lt_of_le I62.lt g75
    have lt_md_m71 : md < m71 := Nat.lt_of_lt_of_le I66.lt g75
    have lt_q_m71 : q < m71 := Nat.lt_of_lt_of_le E67.lt g75
    have ks84 := Nat.le_trans K57.1 g75
    have K85 := K57.trans K70 (allS (Or.inl (mg 0 rfl)) all0)
    have F86 := F58.keep K70 (ninS n_a_q nin0)
    have F87 := F59.keep K70 (ninS n_a_q nin0)
    have F88 := F60.keep K70 (ninS n_a_q nin0)
    have E89 := E61.keep K70
    have I90 := I62.keep K70 (ninS n_mc_q nin0)
    have F91 := F63.keep K70 (ninS n_b_q nin0)
    have F92 := F64.keep K70 (ninS n_b_q nin0)
    have F93 := F65.keep K70 (ninS n_b_q nin0)
    have I94 := I66.keep K70 (ninS n_md_q nin0)
    have E95 := E67.keep K70
    have I96 := I56.keep K70 (ninS n_c_q nin0)
    exact K.areturn dMK_271 rfl rfl rfl (by decide) (by decide) ⟨rfl, K85, m71, i72, k73, gf74, ks84, e76, hi77, hi78, hi79, ⟨F80, F81, F82⟩, A83⟩
theorem rmBK (l : Launch) (Z : State) (a0 : Array Value) (hw : Hw Z a0) (a b mc md : Addr) (kc kd : Nat) (gc gd : Nat → Int32) (h : Heap) (n0 : Nat) (P1 : Fld Z h a "java/math/BigInteger" "signum" "I" (.int 1)) (P2 : Fld Z h a "java/math/BigInteger" "mag" "[I" (.ref mc)) (PA : Ia Z h mc .int (Int32.ofNat kc) (intF gc)) (B1 : Fld Z h b "java/math/BigInteger" "signum" "I" (.int 1)) (B2 : Fld Z h b "java/math/BigInteger" "mag" "[I" (.ref md)) (BA : Ia Z h md .int (Int32.ofNat kd) (intF gd)) (hDv : DivOk kc kd (uv (gc 0)) (uv (gd 0))) : Con l Z ⟨"java/math/BigInteger", "divideKnuth", "(Ljava/math/BigInteger;)Ljava/math/BigInteger;"⟩ jdk_2097_method_62_code 5 (some (.object "java/math/BigInteger")) ⟨5, 10, 33, 84⟩ #[.ref a, .ref b] h n0 (fun vr h' => ∃ t, vr = some (.ref t) ∧ (Keep h h' [] ∧ Exa Z h' t "java/math/BigInteger" ∧ Fld Z h' t "java/math/BigInteger" "signum" "I" (.int 1) ∧ ∃ (m_ : Addr) (k_ : Nat) (g_ : Nat → Int32), Fld Z h' t "java/math/BigInteger" "mag" "[I" (.ref m_) ∧ Ia Z h' m_ .int (Int32.ofNat k_) (intF g_) ∧ (2 ≤ k_ ∧ k_ ≤ 4))) := by
  refine Con.of pnBK (fun m_ => efBK m_ a b) (fun E K => ?_)
  have K1 : Keep h h [] := Keep.refl _ _
  refine K.newO 1 3 dBK_0 (wd150 hw) (wd151 hw) (wd152 hw) rfl rfl (by decide) (by decide) (fun h3 a2 ha4 g5 X6 A7 D8 => ?_)
  have ks_a2 := ha_ge K1.1 ha4
  have lt_a_a2 : a < a2 := by rw [ha4]; exact P1.lt
  have lt_b_a2 : b < a2 := by rw [ha4]; exact B1.lt
  have lt_mc_a2 : mc < a2 := by rw [ha4]; exact PA.lt
  have lt_md_a2 : md < a2 := by rw [ha4]; exact BA.lt
  have K9 := K1.ext X6
  have F10 := P1.ext X6
  have F11 := P2.ext X6
  have I12 := PA.ext X6
  have F13 := B1.ext X6
  have F14 := B2.ext X6
  have I15 := BA.ext X6
  have F16 : Fld Z h3 a2 "java/math/MutableBigInteger" "offset" "I" (.int 0) := D8 (Or.inl (wd159 hw)) (ty := .int) (by decide)
  have F17 : Fld Z h3 a2 "java/math/MutableBigInteger" "value" "[I" .null := D8 (Or.inl (wd161 hw)) (ty := (.array .int)) (by decide)
  have F18 : Fld Z h3 a2 "java/math/MutableBigInteger" "intLen" "I" (.int 0) := D8 (Or.inl (wd163 hw)) (ty := .int) (by decide)
  refine K.dup dBK_3 rfl ?_
  refine K.callI (a := a2) [] [.ref a2] 1 2 4 dBK_4 rfl rfl (wd153 hw) (wd154 hw) (wd152 hw) (wd156 hw) (by decide) (rmM0 l Z a0 hw a2 h3 n0 A7 F16 F17 F18 g5) rfl (lenOf pd_5 rfl) rfl (Nat.le_of_eq rfl) (by decide) (by decide) rfl rfl (by decide) (by decide) (goU fun h19 q20 => ?_)
  obtain ⟨c21, g22, e23, K24, ⟨F25, F26, F27⟩, A28⟩ := q20
  have lt_a_c21 : a < c21 := Nat.lt_of_lt_of_le F10.lt g22
  have lt_a2_c21 : a2 < c21 := Nat.lt_of_lt_of_le A7.lt g22
  have lt_b_c21 : b < c21 := Nat.lt_of_lt_of_le F13.lt g22
  have lt_mc_c21 : mc < c21 := Nat.lt_of_lt_of_le I12.lt g22
  have lt_md_c21 : md < c21 := Nat.lt_of_lt_of_le I15.lt g22
  have ks29 := Nat.le_trans K9.1 g22
  have K30 := K9.trans K24 (allS (Or.inr ks_a2) all0)
  have F31 := F10.keep K24 (ninS (Nat.ne_of_lt lt_a_a2) nin0)
  have F32 := F11.keep K24 (ninS (Nat.ne_of_lt lt_a_a2) nin0)
  have I33 := I12.keep K24 (ninS (Nat.ne_of_lt lt_mc_a2) nin0)
  have F34 := F13.keep K24 (ninS (Nat.ne_of_lt lt_b_a2) nin0)
  have F35 := F14.keep K24 (ninS (Nat.ne_of_lt lt_b_a2) nin0)
  have I36 := I15.keep K24 (ninS (Nat.ne_of_lt lt_md_a2) nin0)
  have E37 := A7.keep K24
  refine K.astoreN #[oA a, oA b, oA a2, oU, oU] dBK_7 rfl rfl ?_
  refine K.newO 3 7 dBK_8 (wd150 hw) (wd151 hw) (wd152 hw) rfl rfl (by decide) (by decide) (fun h39 a38 ha40 g41 X42 A43 D44 => ?_)
  have ks_a38 := ha_ge K30.1 ha40
  have lt_a_a38 : a < a38 := by rw [ha40]; exact F31.lt
  have lt_a2_a38 : a2 < a38 := by rw [ha40]; exact E37.lt
  have lt_b_a38 : b < a38 := by rw [ha40]; exact F34.lt
  have lt_c21_a38 : c21 < a38 := by rw [ha40]; exact A28.lt
  have lt_mc_a38 : mc < a38 := by rw [ha40]; exact I33.lt
  have lt_md_a38 : md < a38 := by rw [ha40]; exact I36.lt
  have K45 := K30.ext X42
  have F46 := F31.ext X42
  have F47 := F32.ext X42
  have I48 := I33.ext X42
  have F49 := F34.ext X42
  have F50 := F35.ext X42
  have I51 := I36.ext X42
  have E52 := E37.ext X42
  have F53 := F25.ext X42
  have F54 := F26.ext X42
  have F55 := F27.ext X42
  have I56 := A28.ext X42
  have F57 : Fld Z h39 a38 "java/math/MutableBigInteger" "offset" "I" (.int 0) := D44 (Or.inl (wd159 hw)) (ty := .int) (by decide)
  have F58 : Fld Z h39 a38 "java/math/MutableBigInteger" "value" "[I" .null := D44 (Or.inl (wd161 hw)) (ty := (.array .int)) (by decide)
  have F59 : Fld Z h39 a38 "java/math/MutableBigInteger" "intLen" "I" (.int 0) := D44 (Or.inl (wd163 hw)) (ty := .int) (by decide)
  refine K.dup dBK_11 rfl ?_
  refine K.aloadN dBK_12 rfl rfl ?_
  refine K.getF dBK_13 (wd104 hw) F47 ?_
  refine K.callI (a := a38) [.ref mc] [.ref a38] 1 3 7 dBK_16 rfl rfl (wd164 hw) (wd165 hw) (wd152 hw) (wd166 hw) (by decide) (rmM1 l Z a0 hw a38 mc (Int32.ofNat kc) (intF gc) h39 n0 A43 F57 F58 F59 g41 I48 (Nat.ne_of_lt lt_mc_a38)) rfl (lenOf pd_22 rfl) rfl (Nat.le_of_eq rfl) (by decide) (by decide) rfl rfl (by decide) (by decide) (goU fun h60 q61 => ?_)
  obtain ⟨K62, F63, F64, F65⟩ := q61
  have K66 := K45.trans K62 (allS (Or.inr ks_a38) all0)
  have F67 := F46.keep K62 (ninS (Nat.ne_of_lt lt_a_a38) nin0)
  have F68 := F47.keep K62 (ninS (Nat.ne_of_lt lt_a_a38) nin0)
  have I69 := I48.keep K62 (ninS (Nat.ne_of_lt lt_mc_a38) nin0)
  have F70 := F49.keep K62 (ninS (Nat.ne_of_lt lt_b_a38) nin0)
  have F71 := F50.keep K62 (ninS (Nat.ne_of_lt lt_b_a38) nin0)
  have I72 := I51.keep K62 (ninS (Nat.ne_of_lt lt_md_a38) nin0)
  have E73 := E52.keep K62
  have F74 := F53.keep K62 (ninS (Nat.ne_of_lt lt_a2_a38) nin0)
  have F75 := F54.keep K62 (ninS (Nat.ne_of_lt lt_a2_a38) nin0)
  have F76 := F55.keep K62 (ninS (Nat.ne_of_lt lt_a2_a38) nin0)
  have I77 := I56.keep K62 (ninS (Nat.ne_of_lt lt_c21_a38) nin0)
  have E78 := A43.keep K62
  refine K.astoreN #[oA a, oA b, oA a2, oA a38, oU] dBK_19 rfl rfl ?_
  refine K.newO 4 10 dBK_20 (wd150 hw) (wd151 hw) (wd152 hw) rfl rfl (by decide) (by decide) (fun h80 a79 ha81 g82 X83 A84 D85 => ?_)
  have ks_a79 := ha_ge K66.1 ha81
  have lt_a_a79 : a < a79 := by rw [ha81]; exact F67.lt
  have lt_a2_a79 : a2 < a79 := by rw [ha81]; exact E73.lt
  have lt_a38_a79 : a38 < a79 := by rw [ha81]; exact E78.lt
  have lt_b_a79 : b < a79 := by rw [ha81]; exact F70.lt
  have lt_c21_a79 : c21 < a79 := by rw [ha81]; exact I77.lt
  have lt_mc_a79 : mc < a79 := by rw [ha81]; exact I69.lt
  have lt_md_a79 : md < a79 := by rw [ha81]; exact I72.lt
  have K86 := K66.ext X83
  have F87 := F67.ext X83
  have F88 := F68.ext X83
  have I89 := I69.ext X83
  have F90 := F70.ext X83
  have F91 := F71.ext X83
  have I92 := I72.ext X83
  have E93 := E73.ext X83
  have F94 := F74.ext X83
  have F95 := F75.ext X83
  have F96 := F76.ext X83
  have I97 := I77.ext X83
  have E98 := E78.ext X83
  have F99 := F63.ext X83
  have F100 := F64.ext X83
  have F101 := F65.ext X83
  have F102 : Fld Z h80 a79 "java/math/MutableBigInteger" "offset" "I" (.int 0) := D85 (Or.inl (wd159 hw)) (ty := .int) (by decide)
  have F103 : Fld Z h80 a79 "java/math/MutableBigInteger" "value" "[I" .null := D85 (Or.inl (wd161 hw)) (ty := (.array .int)) (by decide)
  have F104 : Fld Z h80 a79 "java/math/MutableBigInteger" "intLen" "I" (.int 0) := D85 (Or.inl (wd163 hw)) (ty := .int) (by decide)
  refine K.dup dBK_23 rfl ?_
  refine K.aloadN dBK_24 rfl rfl ?_
  refine K.getF dBK_25 (wd104 hw) F91 ?_
  refine K.callI (a := a79) [.ref md] [.ref a79] 1 4 10 dBK_28 rfl rfl (wd164 hw) (wd165 hw) (wd152 hw) (wd166 hw) (by decide) (rmM1 l Z a0 hw a79 md (Int32.ofNat kd) (intF gd) h80 n0 A84 F102 F103 F104 g82 I92 (Nat.ne_of_lt lt_md_a79)) rfl (lenOf pd_22 rfl) rfl (Nat.le_of_eq rfl) (by decide) (by decide) rfl rfl (by decide) (by decide) (goU fun h105 q106 => ?_)
  obtain ⟨K107, F108, F109, F110⟩ := q106
  have K111 := K86.trans K107 (allS (Or.inr ks_a79) all0)
  have F112 := F87.keep K107 (ninS (Nat.ne_of_lt lt_a_a79) nin0)
  have F113 := F88.keep K107 (ninS (Nat.ne_of_lt lt_a_a79) nin0)
  have I114 := I89.keep K107 (ninS (Nat.ne_of_lt lt_mc_a79) nin0)
  have F115 := F90.keep K107 (ninS (Nat.ne_of_lt lt_b_a79) nin0)
  have F116 := F91.keep K107 (ninS (Nat.ne_of_lt lt_b_a79) nin0)
  have I117 := I92.keep K107 (ninS (Nat.ne_of_lt lt_md_a79) nin0)
  have E118 := E93.keep K107
  have F119 := F94.keep K107 (ninS (Nat.ne_of_lt lt_a2_a79) nin0)
  have F120 := F95.keep K107 (ninS (Nat.ne_of_lt lt_a2_a79) nin0)
  have F121 := F96.keep K107 (ninS (Nat.ne_of_lt lt_a2_a79) nin0)
  have I122 := I97.keep K107 (ninS (Nat.ne_of_lt lt_c21_a79) nin0)
  have E123 := E98.keep K107
  have F124 := F99.keep K107 (ninS (Nat.ne_of_lt lt_a38_a79) nin0)
  have F125 := F100.keep K107 (ninS (Nat.ne_of_lt lt_a38_a79) nin0)
  have F126 := F101.keep K107 (ninS (Nat.ne_of_lt lt_a38_a79) nin0)
  have E127 := A84.keep K107
  refine K.astore #[oA a, oA b, oA a2, oA a38, oA a79] dBK_31 rfl rfl ?_
  refine K.aloadN dBK_33 rfl rfl ?_
  refine K.aload dBK_34 rfl rfl ?_
  refine K.aloadN dBK_36 rfl rfl ?_
  refine K.iconst (0 : Int32) dBK_37 rfl ?_
  refine K.callV (a := a38) [.ref a79, .ref a2, .int 0] [] 0 8 23 dBK_38 (wd167 hw) (wd168 hw) (wd170 hw) (wd169 hw) (wd152 hw) (wd171 hw) (by decide) (rmMK l Z a0 hw a38 a79 a2 mc md c21 kc kd gc gd (fun _ => .int 0) h105 n0 E123 F124 F125 F126 I114 F108 F109 F110 I117 E118 F119 F120 F121 I122 g5 e23 (Nat.ne_of_gt lt_a2_a38) (Nat.ne_of_gt lt_a2_a79) (Nat.ne_of_lt lt_mc_a2) (Nat.ne_of_lt lt_md_a2) (Nat.ne_of_gt lt_c21_a38) (Nat.ne_of_gt lt_c21_a79) (Nat.ne_of_lt lt_mc_c21) (Nat.ne_of_lt lt_md_c21) (Nat.ne_of_gt lt_a2_c21) hDv) E123 rfl (lenOf pd_25 rfl) rfl (Nat.le_of_eq rfl) (by decide) (by decide) rfl rfl (by decide) (by decide) (goV fun h128 q129 => ?_)
  obtain ⟨K130, m131, i132, k133, gf134, g135, e136, hi137, hi138, hi139, ⟨F140, F141, F142⟩, A143⟩ := q129
  have lt_a_m131 : a < m131 := Nat.lt_of_lt_of_le F112.lt g135
  have lt_a2_m131 : a2 < m131 := Nat.lt_of_lt_of_le E118.lt g135
  have lt_a38_m131 : a38 < m131 := Nat.lt_of_lt_of_le E123.lt g135
  have lt_a79_m131 : a79 < m131 := Nat.lt_of_lt_of_le E127.lt g135
  have lt_b_m131 : b < m131 := Nat.lt_of_lt_of_le F115.lt g135
  have lt_c21_m131 : c21 < m131 := Nat.lt_of_lt_of_le I122.lt g135
  have lt_mc_m131 : mc < m131 := Nat.lt_of_lt_of_le I114.lt g135
  have lt_md_m131 : md < m131 := Nat.lt_of_lt_of_le I117.lt g135
  have ks144 := Nat.le_trans K111.1 g135
  have K145 := K111.trans K130 (allS (Or.inr ks_a2) (allS (Or.inr ks29) all0))
  have F146 := F112.keep K130 (ninS (Nat.ne_of_lt lt_a_a2) (ninS (Nat.ne_of_lt lt_a_c21) nin0))
  have F147 := F113.keep K130 (ninS (Nat.ne_of_lt lt_a_a2) (ninS (Nat.ne_of_lt lt_a_c21) nin0))
  have I148 := I114.keep K130 (ninS (Nat.ne_of_lt lt_mc_a2) (ninS (Nat.ne_of_lt lt_mc_c21) nin0))
  have F149 := F115.keep K130 (ninS (Nat.ne_of_lt lt_b_a2) (ninS (Nat.ne_of_lt lt_b_c21) nin0))
  have F150 := F116.keep K130 (ninS (Nat.ne_of_lt lt_b_a2) (ninS (Nat.ne_of_lt lt_b_c21) nin0))
  have I151 := I117.keep K130 (ninS (Nat.ne_of_lt lt_md_a2) (ninS (Nat.ne_of_lt lt_md_c21) nin0))
  have E152 := E118.keep K130
  have E153 := E123.keep K130
  have F154 := F124.keep K130 (ninS (Nat.ne_of_gt lt_a2_a38) (ninS (Nat.ne_of_gt lt_c21_a38) nin0))
  have F155 := F125.keep K130 (ninS (Nat.ne_of_gt lt_a2_a38) (ninS (Nat.ne_of_gt lt_c21_a38) nin0))
  have F156 := F126.keep K130 (ninS (Nat.ne_of_gt lt_a2_a38) (ninS (Nat.ne_of_gt lt_c21_a38) nin0))
  have E157 := E127.keep K130
  have F158 := F108.keep K130 (ninS (Nat.ne_of_gt lt_a2_a79) (ninS (Nat.ne_of_gt lt_c21_a79) nin0))
  have F159 := F109.keep K130 (ninS (Nat.ne_of_gt lt_a2_a79) (ninS (Nat.ne_of_gt lt_c21_a79) nin0))
  have F160 := F110.keep K130 (ninS (Nat.ne_of_gt lt_a2_a79) (ninS (Nat.ne_of_gt lt_c21_a79) nin0))
  refine K.pop dBK_41 rfl ?_
  refine K.aloadN dBK_42 rfl rfl ?_
  refine K.aloadN dBK_43 rfl rfl ?_
  refine K.getF dBK_44 (wd100 hw) F146 ?_
  refine K.aloadN dBK_47 rfl rfl ?_
  refine K.getF dBK_48 (wd100 hw) F149 ?_
  refine K.imul dBK_51 ?_
  show Wk E h128 8 23 52 #[oA a, oA b, oA a2, oA a38, oA a79] [.int 1, .ref a2]
  refine K.callV (a := a2) [.int 1] [] 0 10 33 dBK_52 (wd194 hw) (wd195 hw) (wd197 hw) (wd196 hw) (wd152 hw) (wd198 hw) (by decide) (rmTB l Z a0 hw a2 m131 i132 k133 gf134 h128 n0 E152 F140 F141 F142 A143 g5 e136 (Nat.ne_of_gt lt_a2_m131) (by omega) (by omega) (by omega)) E152 rfl (lenOf pd_26 rfl) rfl (Nat.le_of_eq rfl) (by decide) (by decide) rfl rfl (by decide) (by decide) (goR fun t161 h162 q163 => ?_)
  obtain ⟨K164, q165⟩ := q163
  have K166 := K145.trans K164 (allS (Or.inr ks_a2) (allS (Or.inr ks144) all0))
  have F167 := F146.keep K164 (ninS (Nat.ne_of_lt lt_a_a2) (ninS (Nat.ne_of_lt lt_a_m131) nin0))
  have F168 := F147.keep K164 (ninS (Nat.ne_of_lt lt_a_a2) (ninS (Nat.ne_of_lt lt_a_m131) nin0))
  have I169 := I148.keep K164 (ninS (Nat.ne_of_lt lt_mc_a2) (ninS (Nat.ne_of_lt lt_mc_m131) nin0))
  have F170 := F149.keep K164 (ninS (Nat.ne_of_lt lt_b_a2) (ninS (Nat.ne_of_lt lt_b_m131) nin0))
  have F171 := F150.keep K164 (ninS (Nat.ne_of_lt lt_b_a2) (ninS (Nat.ne_of_lt lt_b_m131) nin0))
  have I172 := I151.keep K164 (ninS (Nat.ne_of_lt lt_md_a2) (ninS (Nat.ne_of_lt lt_md_m131) nin0))
  have E173 := E152.keep K164
  have E174 := E153.keep K164
  have F175 := F154.keep K164 (ninS (Nat.ne_of_gt lt_a2_a38) (ninS (Nat.ne_of_lt lt_a38_m131) nin0))
  have F176 := F155.keep K164 (ninS (Nat.ne_of_gt lt_a2_a38) (ninS (Nat.ne_of_lt lt_a38_m131) nin0))
  have F177 := F156.keep K164 (ninS (Nat.ne_of_gt lt_a2_a38) (ninS (Nat.ne_of_lt lt_a38_m131) nin0))
  have E178 := E157.keep K164
  have F179 := F158.keep K164 (ninS (Nat.ne_of_gt lt_a2_a79) (ninS (Nat.ne_of_lt lt_a79_m131) nin0))
  have F180 := F159.keep K164 (ninS (Nat.ne_of_gt lt_a2_a79) (ninS (Nat.ne_of_lt lt_a79_m131) nin0))
  have F181 := F160.keep K164 (ninS (Nat.ne_of_gt lt_a2_a79) (ninS (Nat.ne_of_lt lt_a79_m131) nin0))
  obtain ⟨X182, F183, m184, k185, gf186, F187, A188, cn189⟩ := q165
  exact K.areturn dBK_55 rfl rfl rfl (by decide) (by decide) ⟨_, rfl, K166, X182, F183, _, _, _, F187, A188, cn189⟩
theorem rmBD (l : Launch) (Z : State) (a0 : Array Value) (hw : Hw Z a0) (a b mc md : Addr) (kc kd : Nat) (gc gd : Nat → Int32) (h : Heap) (n0 : Nat) (AE : Exa Z h a "java/math/BigInteger") (P1 : Fld Z h a "java/math/BigInteger" "signum" "I" (.int 1)) (P2 : Fld Z h a "java/math/BigInteger" "mag" "[I" (.ref mc)) (PA : Ia Z h mc .int (Int32.ofNat kc) (intF gc)) (B1 : Fld Z h b "java/math/BigInteger" "signum" "I" (.int 1)) (B2 : Fld Z h b "java/math/BigInteger" "mag" "[I" (.ref md)) (BA : Ia Z h md .int (Int32.ofNat kd) (intF gd)) (hDv : DivOk kc kd (uv (gc 0)) (uv (gd 0))) : Con l Z ⟨"java/math/BigInteger", "divide", "(Ljava/math/BigInteger;)Ljava/math/BigInteger;"⟩ jdk_2097_method_61_code 2 (some (.object "java/math/BigInteger")) ⟨6, 10, 33, 100⟩ #[.ref a, .ref b] h n0 (fun vr h' => ∃ t, vr = some (.ref t) ∧ (Keep h h' [] ∧ Exa Z h' t "java/math/BigInteger" ∧ Fld Z h' t "java/math/BigInteger" "signum" "I" (.int 1) ∧ ∃ (m_ : Addr) (k_ : Nat) (g_ : Nat → Int32), Fld Z h' t "java/math/BigInteger" "mag" "[I" (.ref m_) ∧ Ia Z h' m_ .int (Int32.ofNat k_) (intF g_) ∧ (2 ≤ k_ ∧ k_ ≤ 4))) := by
  refine Con.of pnBD (fun m_ => efBD m_ a b) (fun E K => ?_)
  have K1 : Keep h h [] := Keep.refl _ _
  have hkd : kd ≤ 2 := by rcases hDv with ⟨t, -⟩ | ⟨t, -⟩ <;> omega
  refine K.aloadN dBD_0 rfl rfl ?_
  refine K.getF dBD_1 (wd104 hw) B2 ?_
  refine K.arraylength dBD_4 BA ?_
  refine K.bipush (80 : Int32) dBD_5 rfl ?_
  refine K.ic_lt dBD_7 (fun _ => ?_) (fun u => absurd ((own_lt (j := 80) (by omega) (by decide)).mpr (by omega)) u)
  refine K.aloadN dBD_26 rfl rfl ?_
  refine K.aloadN dBD_27 rfl rfl ?_
  refine K.callP (a := a) [.ref b] [] 0 10 33 dBD_28 (wd145 hw) (wd147 hw) (wd148 hw) (wd146 hw) (wd94 hw) (wd149 hw) (by decide) (rmBK l Z a0 hw a b mc md kc kd gc gd h n0 P1 P2 PA B1 B2 BA hDv) AE rfl (lenOf pd_27 rfl) rfl (Nat.le_of_eq rfl) (by decide) (by decide) rfl rfl (by decide) (by decide) (goR fun t2 h3 q4 => ?_)
  obtain ⟨K5, q6⟩ := q4
  have K7 := K1.trans K5 all0
  have E8 := AE.keep K5
  have F9 := P1.keep K5 nin0
  have F10 := P2.keep K5 nin0
  have I11 := PA.keep K5 nin0
  have F12 := B1.keep K5 nin0
  have F13 := B2.keep K5 nin0
  have I14 := BA.keep K5 nin0
  obtain ⟨X15, F16, m17, k18, gf19, F20, A21, cn22⟩ := q6
  exact K.areturn dBD_31 rfl rfl rfl (by decide) (by decide) ⟨_, rfl, K7, X15, F16, _, _, _, F20, A21, cn22⟩
theorem rmDI (l : Launch) (Z : State) (a0 : Array Value) (hw : Hw Z a0) (a : Addr) (d : Int64) (h : Heap) (n0 : Nat) (PE : Exa Z h a "com/example/entry_by_measure/entrybymeasure/service/Divisor") (P1 : Fld Z h a "com/example/entry_by_measure/entrybymeasure/service/Divisor" "divisor" "J" (.long 0)) (P2 : Fld Z h a "com/example/entry_by_measure/entrybymeasure/service/Divisor" "multiplier" "J" (.long 0)) (P3 : Fld Z h a "com/example/entry_by_measure/entrybymeasure/service/Divisor" "shift" "I" (.int 0)) (ga : n0 ≤ a) (hS : Sts Z) (hold : Ext Z.heap h) (hz : Z.heap.size ≤ n0) (hd : 1 ≤ d.toInt) : Con l Z ⟨"com/example/entry_by_measure/entrybymeasure/service/Divisor", "<init>", "(J)V"⟩ prog_44_method_1_code 4 none ⟨7, 18, 69, 114⟩ #[.ref a, .long d] h n0 (fun vr h' => vr = none ∧ (Keep h h' [a] ∧ ∃ (m_ : Int64) (s_ : Int32), Fld Z h' a "com/example/entry_by_measure/entrybymeasure/service/Divisor" "divisor" "J" (.long d) ∧ Fld Z h' a "com/example/entry_by_measure/entrybymeasure/service/Divisor" "multiplier" "J" (.long m_) ∧ Fld Z h' a "com/example/entry_by_measure/entrybymeasure/service/Divisor" "shift" "I" (.int s_))) := by
  refine Con.of pnDI (fun m_ => efDI m_ a d) (fun E K => ?_)
  have K1 : Keep h h [a] := Keep.refl _ _
  have hl := own_l1 hd
  have rd := rng64 d
  refine K.aloadN dDI_0 rfl rfl ?_
  refine K.initO 0 dDI_1 (wd76 hw) (wd15 hw) (wd16 hw) rfl (by decide) (Nat.le_of_eq rfl) (by decide) ?_
  refine K.bipush (64 : Int32) dDI_4 rfl ?_
  refine K.lloadN dDI_6 rfl ?_
  refine K.lconst (1 : Int64) dDI_7 rfl ?_
  refine K.lsub dDI_8 ?_
  refine K.callS [.long (d - (1 : Int64))] [.int 64] 1 0 0 dDI_9 (wd77 hw) (wd78 hw) (wd79 hw) (wd80 hw) (by decide) (rmNL l Z a0 hw (d - (1 : Int64)) h n0 (by rw [hl]; omega)) rfl (lenOf pd_28 rfl) rfl (Nat.le_of_eq rfl) (by decide) (by decide) rfl rfl (by decide) (by decide) (goIs fun z2 q3 => ?_)
  obtain ⟨b4, rfl, N5⟩ := q3
  refine K.isub dDI_12 ?_
  have hb := N5.1
  rw [own_64 hb]
  refine K.istoreN #[oA a, oJ d, oT, oI (Int32.ofNat b4)] dDI_13 rfl ?_
  refine K.aloadN dDI_14 rfl rfl ?_
  refine K.lloadN dDI_15 rfl ?_
  refine K.putF dDI_16 (wd86 hw) P1 PE (Or.inr ⟨(wd87 hw), rfl, rfl⟩) (wd71 hw) (ty := .long) (by decide) rfl rfl ga (fun h6 W7 => ?_)
  have K8 := K1.wr W7 (Or.inl (mg 0 rfl))
  have E9 := PE.wr W7
  have F10 := P1.same W7
  have F11 := P2.other W7 (Or.inr (sn34 hw))
  have F12 := P3.other W7 (Or.inr (sn35 hw))
  refine K.aloadN dDI_19 rfl rfl ?_
  refine K.iloadN dDI_20 rfl ?_
  refine K.iconst (1 : Int32) dDI_21 rfl ?_
  refine K.isub dDI_22 ?_
  refine K.iconst (0 : Int32) dDI_23 rfl ?_
  refine K.callS [.int ((Int32.ofNat b4) - (1 : Int32)), .int 0] [.ref a] 1 0 0 dDI_24 (wd88 hw) (wd89 hw) (wd3 hw) (wd90 hw) (by decide) (rmXI l Z a0 hw ((Int32.ofNat b4) - (1 : Int32)) (0 : Int32) h6 n0) rfl (lenOf pd_8 rfl) rfl (Nat.le_of_eq rfl) (by decide) (by decide) rfl rfl (by decide) (by decide) (goP ?_)
  refine K.putF dDI_27 (wd91 hw) F12 E9 (Or.inr ⟨(wd92 hw), rfl, rfl⟩) (wd71 hw) (ty := .int) (by decide) rfl rfl ga (fun h13 W14 => ?_)
  have K15 := K8.wr W14 (Or.inl (mg 0 rfl))
  have E16 := E9.wr W14
  have F17 := F10.other W14 (Or.inr (sn36 hw))
  have F18 := F11.other W14 (Or.inr (sn37 hw))
  have F19 := F12.same W14
  refine K.aloadN dDI_30 rfl rfl ?_
  have hold20 := own_hold hold K15 (by intro w_ hw_; rw [List.mem_singleton.mp hw_]; exact Nat.le_trans hz ga)
  obtain ⟨⟨one, mo, go, So, T1, T2, T3, T4, T5⟩, -⟩ := id hS
  have So := So.ext hold20
  have T1 := T1.ext hold20
  have T2 := T2.ext hold20
  have T3 := T3.ext hold20
  have T4 := T4.ext hold20
  refine K.getS dDI_31 (wd93 hw) So ?_
  refine K.bipush (63 : Int32) dDI_34 rfl ?_
  refine K.iloadN dDI_36 rfl ?_
  refine K.iadd dDI_37 ?_
  rw [own_63]
  refine K.callV (a := one) [.int (Int32.ofNat (63 + b4))] [.ref a] 1 2 10 dDI_38 (wd95 hw) (wd96 hw) (wd98 hw) (wd97 hw) (wd94 hw) (wd99 hw) (by decide) (rmSL l Z a0 hw one mo (63 + b4) go h13 n0 T2 T3 T4 T5 (by omega) (by omega)) T1 rfl (lenOf pd_26 rfl) rfl (Nat.le_of_eq rfl) (by decide) (by decide) rfl rfl (by decide) (by decide) (goR fun t21 h22 q23 => ?_)
  obtain ⟨K24, q25⟩ := q23
  have K26 := K15.trans K24 all0
  have E27 := E16.keep K24
  have F28 := F17.keep K24 nin0
  have F29 := F18.keep K24 nin0
  have F30 := F19.keep K24 nin0
  have E31 := T1.keep K24
  have F32 := T2.keep K24 nin0
  have F33 := T3.keep K24 nin0
  have I34 := T4.keep K24 nin0
  obtain ⟨X35, F36, m37, k38, gf39, F40, A41, cn42⟩ := q25
  obtain ⟨ek, c1, c2, c3, c4⟩ := cn42
  refine K.lloadN dDI_41 rfl ?_
  refine K.lconst (1 : Int64) dDI_42 rfl ?_
  refine K.lsub dDI_43 ?_
  have hold43 := own_hold hold K26 (by intro w_ hw_; rw [List.mem_singleton.mp hw_]; exact Nat.le_trans hz ga)
  refine K.callS [.long (d - (1 : Int64))] [.ref t21, .ref a] 2 4 18 dDI_44 (wd126 hw) (wd127 hw) (wd94 hw) (wd128 hw) (by decide) (rmVO l Z a0 hw (d - (1 : Int64)) h22 n0 hS hold43 (by rw [hl]; omega)) rfl (lenOf pd_29 rfl) rfl (Nat.le_of_eq rfl) (by decide) (by decide) rfl rfl (by decide) (by decide) (goR fun t44 h45 q46 => ?_)
  obtain ⟨K47, q48⟩ := q46
  have K49 := K26.trans K47 all0
  have E50 := E27.keep K47
  have F51 := F28.keep K47 nin0
  have F52 := F29.keep K47 nin0
  have F53 := F30.keep K47 nin0
  have E54 := X35.keep K47
  have F55 := F36.keep K47 nin0
  have F56 := F40.keep K47 nin0
  have I57 := A41.keep K47 nin0
  rcases q48 with ⟨e0, Fz⟩ | ⟨e1, qB⟩
  · have hX : d.toInt = (d - 1).toInt + 1 := by rw [hl]; omega
    refine K.callV (a := t21) [.ref t44] [.ref a] 1 4 18 dDI_47 (wd131 hw) (wd132 hw) (wd134 hw) (wd133 hw) (wd94 hw) (wd135 hw) (by decide) (rmAZ l Z a0 hw t21 t44 h45 n0 Fz) E54 rfl (lenOf pd_27 rfl) rfl (Nat.le_of_eq rfl) (by decide) (by decide) rfl rfl (by decide) (by decide) (goP ?_)
    refine K.lloadN dDI_50 rfl ?_
    have hold58 := own_hold hold K49 (by intro w_ hw_; rw [List.mem_singleton.mp hw_]; exact Nat.le_trans hz ga)
    refine K.callS [.long d] [.ref t21, .ref a] 2 6 26 dDI_51 (wd126 hw) (wd127 hw) (wd94 hw) (wd128 hw) (by decide) (rmVO l Z a0 hw d h45 n0 hS hold58 (by omega)) rfl (lenOf pd_29 rfl) rfl (Nat.le_of_eq rfl) (by decide) (by decide) rfl rfl (by decide) (by decide) (goR fun t59 h60 q61 => ?_)
    obtain ⟨K62, q63⟩ := q61
    have K64 := K49.trans K62 all0
    have E65 := E50.keep K62
    have F66 := F51.keep K62 nin0
    have F67 := F52.keep K62 nin0
    have F68 := F53.keep K62 nin0
    have E69 := E54.keep K62
    have F70 := F55.keep K62 nin0
    have F71 := F56.keep K62 nin0
    have I72 := I57.keep K62 nin0
    have F73 := Fz.keep K62 nin0
    obtain ⟨-, q75⟩ := q63.resolve_left (fun q => absurd q.1 (by omega))
    obtain ⟨X76, F77, m78, k79, gf80, F81, A82, cn83⟩ := q75
    refine K.callV (a := t21) [.ref t59] [.ref a] 1 16 59 dDI_54 (wd140 hw) (wd141 hw) (wd143 hw) (wd142 hw) (wd94 hw) (wd144 hw) (by decide) (rmBD l Z a0 hw t21 t59 m37 m78 k38 k79 gf39 gf80 h60 n0 E69 F70 F71 I72 F77 F81 A82 (by rw [ek]; exact own_ok N5 hX rd.2 c1 cn83)) E69 rfl (lenOf pd_27 rfl) rfl (Nat.le_of_eq rfl) (by decide) (by decide) rfl rfl (by decide) (by decide) (goR fun t84 h85 q86 => ?_)
    obtain ⟨K87, q88⟩ := q86
    have K89 := K64.trans K87 all0
    have E90 := E65.keep K87
    have F91 := F66.keep K87 nin0
    have F92 := F67.keep K87 nin0
    have F93 := F68.keep K87 nin0
    have E94 := E69.keep K87
    have F95 := F70.keep K87 nin0
    have F96 := F71.keep K87 nin0
    have I97 := I72.keep K87 nin0
    have F98 := F73.keep K87 nin0
    have E99 := X76.keep K87
    have F100 := F77.keep K87 nin0
    have F101 := F81.keep K87 nin0
    have I102 := A82.keep K87 nin0
    obtain ⟨X103, F104, m105, k106, gf107, F108, A109, cn110⟩ := q88
    refine K.callV (a := t84) [] [.ref a] 1 16 59 dDI_57 (wd223 hw) (wd224 hw) (wd226 hw) (wd225 hw) (wd94 hw) (wd227 hw) (by decide) (rmLV l Z a0 hw t84 m105 k106 gf107 h85 n0 X103 F104 F108 A109 (by omega) (by omega)) X103 rfl (lenOf pd_30 rfl) rfl (Nat.le_of_eq rfl) (by decide) (by decide) rfl rfl (by decide) (by decide) (goJs fun z111 q112 => ?_)
    refine K.putF dDI_60 (wd233 hw) F92 E90 (Or.inr ⟨(wd234 hw), rfl, rfl⟩) (wd71 hw) (ty := .long) (by decide) rfl rfl ga (fun h113 W114 => ?_)
    have K115 := K89.wr W114 (Or.inl (mg 0 rfl))
    have E116 := E90.wr W114
    have F117 := F91.other W114 (Or.inr (sn38 hw))
    have F118 := F92.same W114
    have F119 := F93.other W114 (Or.inr (sn39 hw))
    exact K.ret dDI_63 (by decide) (by decide) ⟨rfl, K115, _, _, F117, F118, F119⟩
  · have hX : d.toInt = (d - 1).toInt + 1 := by rw [hl]; omega
    obtain ⟨X120, F121, m122, k123, gf124, F125, A126, cn127⟩ := qB
    refine K.callV (a := t21) [.ref t44] [.ref a] 1 6 28 dDI_47 (wd131 hw) (wd132 hw) (wd134 hw) (wd133 hw) (wd94 hw) (wd135 hw) (by decide) (rmAD l Z a0 hw t21 t44 m37 m122 k38 k123 gf39 gf124 h45 n0 F55 F56 I57 F121 F125 A126 (by rw [ek]; exact own_two N5 e1 cn127) c2 c3 c4) E54 rfl (lenOf pd_27 rfl) rfl (Nat.le_of_eq rfl) (by decide) (by decide) rfl rfl (by decide) (by decide) (goR fun t128 h129 q130 => ?_)
    obtain ⟨K131, q132⟩ := q130
    have K133 := K49.trans K131 all0
    have E134 := E50.keep K131
    have F135 := F51.keep K131 nin0
    have F136 := F52.keep K131 nin0
    have F137 := F53.keep K131 nin0
    have E138 := E54.keep K131
    have F139 := F55.keep K131 nin0
    have F140 := F56.keep K131 nin0
    have I141 := I57.keep K131 nin0
    have E142 := X120.keep K131
    have F143 := F121.keep K131 nin0
    have F144 := F125.keep K131 nin0
    have I145 := A126.keep K131 nin0
    obtain ⟨X146, F147, m148, k149, gf150, F151, A152, cn153⟩ := q132
    refine K.lloadN dDI_50 rfl ?_
    have hold154 := own_hold hold K133 (by intro w_ hw_; rw [List.mem_singleton.mp hw_]; exact Nat.le_trans hz ga)
    refine K.callS [.long d] [.ref t128, .ref a] 2 8 36 dDI_51 (wd126 hw) (wd127 hw) (wd94 hw) (wd128 hw) (by decide) (rmVO l Z a0 hw d h129 n0 hS hold154 (by omega)) rfl (lenOf pd_29 rfl) rfl (Nat.le_of_eq rfl) (by decide) (by decide) rfl rfl (by decide) (by decide) (goR fun t155 h156 q157 => ?_)
    obtain ⟨K158, q159⟩ := q157
    have K160 := K133.trans K158 all0
    have E161 := E134.keep K158
    have F162 := F135.keep K158 nin0
    have F163 := F136.keep K158 nin0
    have F164 := F137.keep K158 nin0
    have E165 := E138.keep K158
    have F166 := F139.keep K158 nin0
    have F167 := F140.keep K158 nin0
    have I168 := I141.keep K158 nin0
    have E169 := E142.keep K158
    have F170 := F143.keep K158 nin0
    have F171 := F144.keep K158 nin0
    have I172 := I145.keep K158 nin0
    have E173 := X146.keep K158
    have F174 := F147.keep K158 nin0
    have F175 := F151.keep K158 nin0
    have I176 := A152.keep K158 nin0
    obtain ⟨-, q178⟩ := q159.resolve_left (fun q => absurd q.1 (by omega))
    obtain ⟨X179, F180, m181, k182, gf183, F184, A185, cn186⟩ := q178
    refine K.callV (a := t128) [.ref t155] [.ref a] 1 18 69 dDI_54 (wd140 hw) (wd141 hw) (wd143 hw) (wd142 hw) (wd94 hw) (wd144 hw) (by decide) (rmBD l Z a0 hw t128 t155 m148 m181 k149 k182 gf150 gf183 h156 n0 E173 F174 F175 I176 F180 F184 A185 (by rw [cn153.1, ek]; exact own_ok N5 hX rd.2 (by rw [cn153.2]; exact c1) cn186)) E173 rfl (lenOf pd_27 rfl) rfl (Nat.le_of_eq rfl) (by decide) (by decide) rfl rfl (by decide) (by decide) (goR fun t187 h188 q189 => ?_)
    obtain ⟨K190, q191⟩ := q189
    have K192 := K160.trans K190 all0
    have E193 := E161.keep K190
    have F194 := F162.keep K190 nin0
    have F195 := F163.keep K190 nin0
    have F196 := F164.keep K190 nin0
    have E197 := E165.keep K190
    have F198 := F166.keep K190 nin0
    have F199 := F167.keep K190 nin0
    have I200 := I168.keep K190 nin0
    have E201 := E169.keep K190
    have F202 := F170.keep K190 nin0
    have F203 := F171.keep K190 nin0
    have I204 := I172.keep K190 nin0
    have E205 := E173.keep K190
    have F206 := F174.keep K190 nin0
    have F207 := F175.keep K190 nin0
    have I208 := I176.keep K190 nin0
    have E209 := X179.keep K190
    have F210 := F180.keep K190 nin0
    have F211 := F184.keep K190 nin0
    have I212 := A185.keep K190 nin0
    obtain ⟨X213, F214, m215, k216, gf217, F218, A219, cn220⟩ := q191
    refine K.callV (a := t187) [] [.ref a] 1 18 69 dDI_57 (wd223 hw) (wd224 hw) (wd226 hw) (wd225 hw) (wd94 hw) (wd227 hw) (by decide) (rmLV l Z a0 hw t187 m215 k216 gf217 h188 n0 X213 F214 F218 A219 (by omega) (by omega)) X213 rfl (lenOf pd_30 rfl) rfl (Nat.le_of_eq rfl) (by decide) (by decide) rfl rfl (by decide) (by decide) (goJs fun z221 q222 => ?_)
    refine K.putF dDI_60 (wd233 hw) F195 E193 (Or.inr ⟨(wd234 hw), rfl, rfl⟩) (wd71 hw) (ty := .long) (by decide) rfl rfl ga (fun h223 W224 => ?_)
    have K225 := K192.wr W224 (Or.inl (mg 0 rfl))
    have E226 := E193.wr W224
    have F227 := F194.other W224 (Or.inr (sn38 hw))
    have F228 := F195.same W224
    have F229 := F196.other W224 (Or.inr (sn39 hw))
    exact K.ret dDI_63 (by decide) (by decide) ⟨rfl, K225, _, _, F227, F228, F229⟩
theorem rmS3 (l : Launch) (Z : State) (a0 : Array Value) (hw : Hw Z a0) (a : Addr) (c r p : Int64) (h : Heap) (n0 : Nat) (PE : Exa Z h a "com/example/entry_by_measure/entrybymeasure/service/TokenBucket$Shape") (P0 : Fld Z h a "com/example/entry_by_measure/entrybymeasure/service/TokenBucket$Shape" "capacity" "J" (.long 0)) (P1 : Fld Z h a "com/example/entry_by_measure/entrybymeasure/service/TokenBucket$Shape" "perToken" "J" (.long 0)) (P2 : Fld Z h a "com/example/entry_by_measure/entrybymeasure/service/TokenBucket$Shape" "refillParts" "J" (.long 0)) (P3 : Fld Z h a "com/example/entry_by_measure/entrybymeasure/service/TokenBucket$Shape" "fullParts" "J" (.long 0)) (P4 : Fld Z h a "com/example/entry_by_measure/entrybymeasure/service/TokenBucket$Shape" "token" "Lcom/example/entry_by_measure/entrybymeasure/service/Divisor;" .null) (P5 : Fld Z h a "com/example/entry_by_measure/entrybymeasure/service/TokenBucket$Shape" "refill" "Lcom/example/entry_by_measure/entrybymeasure/service/Divisor;" .null) (P6 : Fld Z h a "com/example/entry_by_measure/entrybymeasure/service/TokenBucket$Shape" "oneTakenFullInMillis" "J" (.long 0)) (P7 : Fld Z h a "com/example/entry_by_measure/entrybymeasure/service/TokenBucket$Shape" "oneTaken" "Lcom/example/entry_by_measure/entrybymeasure/model/Decision;" .null) (ga : n0 ≤ a) (hS : Sts Z) (hold : Ext Z.heap h) (hz : Z.heap.size ≤ n0) (hT : Three c r p) : Con l Z ⟨"com/example/entry_by_measure/entrybymeasure/service/TokenBucket$Shape", "<init>", "(JJJ)V"⟩ prog_55_method_2_code 7 none ⟨8, 39, 149, 131⟩ #[.ref a, .long c, .long r, .long p] h n0 (fun vr h' => vr = none ∧ (Keep h h' [a] ∧ Fld Z h' a "com/example/entry_by_measure/entrybymeasure/service/TokenBucket$Shape" "fullParts" "J" (.long (c * p)))) := by
  refine Con.of pnS3 (fun m_ => efS3 m_ a c r p) (fun E K => ?_)
  have K1 : Keep h h [a] := Keep.refl _ _
  refine K.aloadN dS3_0 rfl rfl ?_
  refine K.initO 0 dS3_1 (wd61 hw) (wd15 hw) (wd16 hw) rfl (by decide) (Nat.le_of_eq rfl) (by decide) ?_
  refine K.aloadN dS3_4 rfl rfl ?_
  refine K.lloadN dS3_5 rfl ?_
  refine K.putF dS3_6 (wd62 hw) P0 PE (Or.inr ⟨(wd63 hw), rfl, rfl⟩) (wd6 hw) (ty := .long) (by decide) rfl rfl ga (fun h2 W3 => ?_)
  have K4 := K1.wr W3 (Or.inl (mg 0 rfl))
  have E5 := PE.wr W3
  have F6 := P0.same W3
  have F7 := P1.other W3 (Or.inr (sn40 hw))
  have F8 := P2.other W3 (Or.inr (sn41 hw))
  have F9 := P3.other W3 (Or.inr (sn42 hw))
  have F10 := P4.other W3 (Or.inr (sn43 hw))
  have F11 := P5.other W3 (Or.inr (sn44 hw))
  have F12 := P6.other W3 (Or.inr (sn45 hw))
  have F13 := P7.other W3 (Or.inr (sn46 hw))
  refine K.aloadN dS3_9 rfl rfl ?_
  refine K.lload dS3_10 rfl ?_
  refine K.putF dS3_12 (wd64 hw) F7 E5 (Or.inr ⟨(wd65 hw), rfl, rfl⟩) (wd6 hw) (ty := .long) (by decide) rfl rfl ga (fun h14 W15 => ?_)
  have K16 := K4.wr W15 (Or.inl (mg 0 rfl))
  have E17 := E5.wr W15
  have F18 := F6.other W15 (Or.inr (sn47 hw))
  have F19 := F7.same W15
  have F20 := F8.other W15 (Or.inr (sn48 hw))
  have F21 := F9.other W15 (Or.inr (sn49 hw))
  have F22 := F10.other W15 (Or.inr (sn50 hw))
  have F23 := F11.other W15 (Or.inr (sn51 hw))
  have F24 := F12.other W15 (Or.inr (sn52 hw))
  have F25 := F13.other W15 (Or.inr (sn53 hw))
  refine K.aloadN dS3_15 rfl rfl ?_
  refine K.lloadN dS3_16 rfl ?_
  refine K.putF dS3_17 (wd66 hw) F20 E17 (Or.inr ⟨(wd67 hw), rfl, rfl⟩) (wd6 hw) (ty := .long) (by decide) rfl rfl ga (fun h26 W27 => ?_)
  have K28 := K16.wr W27 (Or.inl (mg 0 rfl))
  have E29 := E17.wr W27
  have F30 := F18.other W27 (Or.inr (sn54 hw))
  have F31 := F19.other W27 (Or.inr (sn55 hw))
  have F32 := F20.same W27
  have F33 := F21.other W27 (Or.inr (sn56 hw))
  have F34 := F22.other W27 (Or.inr (sn57 hw))
  have F35 := F23.other W27 (Or.inr (sn58 hw))
  have F36 := F24.other W27 (Or.inr (sn59 hw))
  have F37 := F25.other W27 (Or.inr (sn60 hw))
  refine K.aloadN dS3_20 rfl rfl ?_
  refine K.lloadN dS3_21 rfl ?_
  refine K.lload dS3_22 rfl ?_
  refine K.lmul dS3_24 ?_
  refine K.putF dS3_25 (wd68 hw) F33 E29 (Or.inr ⟨(wd69 hw), rfl, rfl⟩) (wd6 hw) (ty := .long) (by decide) rfl rfl ga (fun h38 W39 => ?_)
  have K40 := K28.wr W39 (Or.inl (mg 0 rfl))
  have E41 := E29.wr W39
  have F42 := F30.other W39 (Or.inr (sn61 hw))
  have F43 := F31.other W39 (Or.inr (sn62 hw))
  have F44 := F32.other W39 (Or.inr (sn63 hw))
  have F45 := F33.same W39
  have F46 := F34.other W39 (Or.inr (sn64 hw))
  have F47 := F35.other W39 (Or.inr (sn65 hw))
  have F48 := F36.other W39 (Or.inr (sn66 hw))
  have F49 := F37.other W39 (Or.inr (sn67 hw))
  refine K.aloadN dS3_28 rfl rfl ?_
  refine K.newO 1 3 dS3_29 (wd70 hw) (wd71 hw) (wd72 hw) rfl rfl (by decide) (by decide) (fun h51 a50 ha52 g53 X54 A55 D56 => ?_)
  have ks_a50 := ha_ge K40.1 ha52
  have lt_a_a50 : a < a50 := by rw [ha52]; exact E41.lt
  have K57 := K40.ext X54
  have E58 := E41.ext X54
  have F59 := F42.ext X54
  have F60 := F43.ext X54
  have F61 := F44.ext X54
  have F62 := F45.ext X54
  have F63 := F46.ext X54
  have F64 := F47.ext X54
  have F65 := F48.ext X54
  have F66 := F49.ext X54
  have F67 : Fld Z h51 a50 "com/example/entry_by_measure/entrybymeasure/service/Divisor" "divisor" "J" (.long 0) := D56 (Or.inr (wd87 hw)) (ty := .long) (by decide)
  have F68 : Fld Z h51 a50 "com/example/entry_by_measure/entrybymeasure/service/Divisor" "shift" "I" (.int 0) := D56 (Or.inr (wd92 hw)) (ty := .int) (by decide)
  have F69 : Fld Z h51 a50 "com/example/entry_by_measure/entrybymeasure/service/Divisor" "multiplier" "J" (.long 0) := D56 (Or.inr (wd234 hw)) (ty := .long) (by decide)
  refine K.dup dS3_32 rfl ?_
  refine K.lload dS3_33 rfl ?_
  have hold70 := own_hold hold K57 (by intro w_ hw_; rw [List.mem_singleton.mp hw_]; exact Nat.le_trans hz ga)
  refine K.callI (a := a50) [.long p] [.ref a50, .ref a] 2 19 72 dS3_35 rfl rfl (wd73 hw) (wd74 hw) (wd72 hw) (wd75 hw) (by decide) (rmDI l Z a0 hw a50 p h51 n0 A55 F67 F69 F68 g53 hS hold70 hz hT.1) rfl (lenOf pd_12 rfl) rfl (Nat.le_of_eq rfl) (by decide) (by decide) rfl rfl (by decide) (by decide) (goU fun h71 q72 => ?_)
  obtain ⟨K73, mm74, ss75, F76, F77, F78⟩ := q72
  have K79 := K57.trans K73 (allS (Or.inr ks_a50) all0)
  have E80 := E58.keep K73
  have F81 := F59.keep K73 (ninS (Nat.ne_of_lt lt_a_a50) nin0)
  have F82 := F60.keep K73 (ninS (Nat.ne_of_lt lt_a_a50) nin0)
  have F83 := F61.keep K73 (ninS (Nat.ne_of_lt lt_a_a50) nin0)
  have F84 := F62.keep K73 (ninS (Nat.ne_of_lt lt_a_a50) nin0)
  have F85 := F63.keep K73 (ninS (Nat.ne_of_lt lt_a_a50) nin0)
  have F86 := F64.keep K73 (ninS (Nat.ne_of_lt lt_a_a50) nin0)
  have F87 := F65.keep K73 (ninS (Nat.ne_of_lt lt_a_a50) nin0)
  have F88 := F66.keep K73 (ninS (Nat.ne_of_lt lt_a_a50) nin0)
  have E89 := A55.keep K73
  refine K.putF dS3_38 (wd235 hw) F85 E80 (Or.inr ⟨(wd236 hw), rfl, rfl⟩) (wd6 hw) (ty := (.object "com/example/entry_by_measure/entrybymeasure/service/Divisor")) (by decide) rfl rfl ga (fun h90 W91 => ?_)
  have K92 := K79.wr W91 (Or.inl (mg 0 rfl))
  have E93 := E80.wr W91
  have F94 := F81.other W91 (Or.inr (sn68 hw))
  have F95 := F82.other W91 (Or.inr (sn69 hw))
  have F96 := F83.other W91 (Or.inr (sn70 hw))
  have F97 := F84.other W91 (Or.inr (sn71 hw))
  have F98 := F85.same W91
  have F99 := F86.other W91 (Or.inr (sn72 hw))
  have F100 := F87.other W91 (Or.inr (sn73 hw))
  have F101 := F88.other W91 (Or.inr (sn74 hw))
  have E102 := E89.wr W91
  have F103 := F76.other W91 (Or.inl (Nat.ne_of_gt lt_a_a50))
  have F104 := F77.other W91 (Or.inl (Nat.ne_of_gt lt_a_a50))
  have F105 := F78.other W91 (Or.inl (Nat.ne_of_gt lt_a_a50))
  refine K.aloadN dS3_41 rfl rfl ?_
  refine K.newO 20 75 dS3_42 (wd70 hw) (wd71 hw) (wd72 hw) rfl rfl (by decide) (by decide) (fun h107 a106 ha108 g109 X110 A111 D112 => ?_)
  have ks_a106 := ha_ge K92.1 ha108
  have lt_a_a106 : a < a106 := by rw [ha108]; exact E93.lt
  have lt_a50_a106 : a50 < a106 := by rw [ha108]; exact E102.lt
  have K113 := K92.ext X110
  have E114 := E93.ext X110
  have F115 := F94.ext X110
  have F116 := F95.ext X110
  have F117 := F96.ext X110
  have F118 := F97.ext X110
  have F119 := F98.ext X110
  have F120 := F99.ext X110
  have F121 := F100.ext X110
  have F122 := F101.ext X110
  have E123 := E102.ext X110
  have F124 := F103.ext X110
  have F125 := F104.ext X110
  have F126 := F105.ext X110
  have F127 : Fld Z h107 a106 "com/example/entry_by_measure/entrybymeasure/service/Divisor" "divisor" "J" (.long 0) := D112 (Or.inr (wd87 hw)) (ty := .long) (by decide)
  have F128 : Fld Z h107 a106 "com/example/entry_by_measure/entrybymeasure/service/Divisor" "shift" "I" (.int 0) := D112 (Or.inr (wd92 hw)) (ty := .int) (by decide)
  have F129 : Fld Z h107 a106 "com/example/entry_by_measure/entrybymeasure/service/Divisor" "multiplier" "J" (.long 0) := D112 (Or.inr (wd234 hw)) (ty := .long) (by decide)
  refine K.dup dS3_45 rfl ?_
  refine K.lloadN dS3_46 rfl ?_
  have hold130 := own_hold hold K113 (by intro w_ hw_; rw [List.mem_singleton.mp hw_]; exact Nat.le_trans hz ga)
  refine K.callI (a := a106) [.long r] [.ref a106, .ref a] 2 38 144 dS3_47 rfl rfl (wd73 hw) (wd74 hw) (wd72 hw) (wd75 hw) (by decide) (rmDI l Z a0 hw a106 r h107 n0 A111 F127 F129 F128 g109 hS hold130 hz hT.2.1) rfl (lenOf pd_12 rfl) rfl (Nat.le_of_eq rfl) (by decide) (by decide) rfl rfl (by decide) (by decide) (goU fun h131 q132 => ?_)
  obtain ⟨K133, mm134, ss135, F136, F137, F138⟩ := q132
  have K139 := K113.trans K133 (allS (Or.inr ks_a106) all0)
  have E140 := E114.keep K133
  have F141 := F115.keep K133 (ninS (Nat.ne_of_lt lt_a_a106) nin0)
  have F142 := F116.keep K133 (ninS (Nat.ne_of_lt lt_a_a106) nin0)
  have F143 := F117.keep K133 (ninS (Nat.ne_of_lt lt_a_a106) nin0)
  have F144 := F118.keep K133 (ninS (Nat.ne_of_lt lt_a_a106) nin0)
  have F145 := F119.keep K133 (ninS (Nat.ne_of_lt lt_a_a106) nin0)
  have F146 := F120.keep K133 (ninS (Nat.ne_of_lt lt_a_a106) nin0)
  have F147 := F121.keep K133 (ninS (Nat.ne_of_lt lt_a_a106) nin0)
  have F148 := F122.keep K133 (ninS (Nat.ne_of_lt lt_a_a106) nin0)
  have E149 := E123.keep K133
  have F150 := F124.keep K133 (ninS (Nat.ne_of_lt lt_a50_a106) nin0)
  have F151 := F125.keep K133 (ninS (Nat.ne_of_lt lt_a50_a106) nin0)
  have F152 := F126.keep K133 (ninS (Nat.ne_of_lt lt_a50_a106) nin0)
  have E153 := A111.keep K133
  refine K.putF dS3_50 (wd281 hw) F146 E140 (Or.inr ⟨(wd282 hw), rfl, rfl⟩) (wd6 hw) (ty := (.object "com/example/entry_by_measure/entrybymeasure/service/Divisor")) (by decide) rfl rfl ga (fun h154 W155 => ?_)
  have K156 := K139.wr W155 (Or.inl (mg 0 rfl))
  have E157 := E140.wr W155
  have F158 := F141.other W155 (Or.inr (sn75 hw))
  have F159 := F142.other W155 (Or.inr (sn76 hw))
  have F160 := F143.other W155 (Or.inr (sn77 hw))
  have F161 := F144.other W155 (Or.inr (sn78 hw))
  have F162 := F145.other W155 (Or.inr (sn79 hw))
  have F163 := F146.same W155
  have F164 := F147.other W155 (Or.inr (sn80 hw))
  have F165 := F148.other W155 (Or.inr (sn81 hw))
  have E166 := E149.wr W155
  have F167 := F150.other W155 (Or.inl (Nat.ne_of_gt lt_a_a50))
  have F168 := F151.other W155 (Or.inl (Nat.ne_of_gt lt_a_a50))
  have F169 := F152.other W155 (Or.inl (Nat.ne_of_gt lt_a_a50))
  have E170 := E153.wr W155
  have F171 := F136.other W155 (Or.inl (Nat.ne_of_gt lt_a_a106))
  have F172 := F137.other W155 (Or.inl (Nat.ne_of_gt lt_a_a106))
  have F173 := F138.other W155 (Or.inl (Nat.ne_of_gt lt_a_a106))
  refine K.aloadN dS3_53 rfl rfl ?_
  refine K.aloadN dS3_54 rfl rfl ?_
  refine K.getF dS3_55 (wd281 hw) F163 ?_
  refine K.lload dS3_58 rfl ?_
  refine K.callV (a := a106) [.long p] [.ref a] 1 38 144 dS3_60 (wd283 hw) (wd284 hw) (wd286 hw) (wd285 hw) (wd72 hw) (wd287 hw) (by decide) (rmDU l Z a0 hw a106 r mm134 p ss135 h154 n0 F171 F172 F173 E170) E170 rfl (lenOf pd_3 rfl) rfl (Nat.le_of_eq rfl) (by decide) (by decide) rfl rfl (by decide) (by decide) (goJs fun z174 q175 => ?_)
  refine K.putF dS3_63 (wd297 hw) F164 E157 (Or.inr ⟨(wd298 hw), rfl, rfl⟩) (wd6 hw) (ty := .long) (by decide) rfl rfl ga (fun h176 W177 => ?_)
  have K178 := K156.wr W177 (Or.inl (mg 0 rfl))
  have E179 := E157.wr W177
  have F180 := F158.other W177 (Or.inr (sn82 hw))
  have F181 := F159.other W177 (Or.inr (sn83 hw))
  have F182 := F160.other W177 (Or.inr (sn84 hw))
  have F183 := F161.other W177 (Or.inr (sn85 hw))
  have F184 := F162.other W177 (Or.inr (sn86 hw))
  have F185 := F163.other W177 (Or.inr (sn87 hw))
  have F186 := F164.same W177
  have F187 := F165.other W177 (Or.inr (sn88 hw))
  have E188 := E166.wr W177
  have F189 := F167.other W177 (Or.inl (Nat.ne_of_gt lt_a_a50))
  have F190 := F168.other W177 (Or.inl (Nat.ne_of_gt lt_a_a50))
  have F191 := F169.other W177 (Or.inl (Nat.ne_of_gt lt_a_a50))
  have E192 := E170.wr W177
  have F193 := F171.other W177 (Or.inl (Nat.ne_of_gt lt_a_a106))
  have F194 := F172.other W177 (Or.inl (Nat.ne_of_gt lt_a_a106))
  have F195 := F173.other W177 (Or.inl (Nat.ne_of_gt lt_a_a106))
  refine K.aloadN dS3_66 rfl rfl ?_
  refine K.lloadN dS3_67 rfl ?_
  refine K.lconst (1 : Int64) dS3_68 rfl ?_
  refine K.lsub dS3_69 ?_
  refine K.aloadN dS3_70 rfl rfl ?_
  refine K.getF dS3_71 (wd297 hw) F186 ?_
  refine K.callS [.long (c - (1 : Int64)), .long z174] [.ref a] 1 39 149 dS3_74 (wd299 hw) (wd300 hw) (wd301 hw) (wd302 hw) (by decide) (rmDA l Z a0 hw (c - (1 : Int64)) z174 h176 n0) rfl (lenOf pd_31 rfl) rfl (Nat.le_of_eq rfl) (by decide) (by decide) rfl rfl (by decide) (by decide) (goR fun t196 h197 K198 => ?_)
  have K199 := K178.trans K198 all0
  have E200 := E179.keep K198
  have F201 := F180.keep K198 nin0
  have F202 := F181.keep K198 nin0
  have F203 := F182.keep K198 nin0
  have F204 := F183.keep K198 nin0
  have F205 := F184.keep K198 nin0
  have F206 := F185.keep K198 nin0
  have F207 := F186.keep K198 nin0
  have F208 := F187.keep K198 nin0
  have E209 := E188.keep K198
  have F210 := F189.keep K198 nin0
  have F211 := F190.keep K198 nin0
  have F212 := F191.keep K198 nin0
  have E213 := E192.keep K198
  have F214 := F193.keep K198 nin0
  have F215 := F194.keep K198 nin0
  have F216 := F195.keep K198 nin0
  refine K.putF dS3_77 (wd319 hw) F208 E200 (Or.inr ⟨(wd320 hw), rfl, rfl⟩) (wd6 hw) (ty := (.object "com/example/entry_by_measure/entrybymeasure/model/Decision")) (by decide) rfl rfl ga (fun h217 W218 => ?_)
  have K219 := K199.wr W218 (Or.inl (mg 0 rfl))
  have E220 := E200.wr W218
  have F221 := F201.other W218 (Or.inr (sn89 hw))
  have F222 := F202.other W218 (Or.inr (sn90 hw))
  have F223 := F203.other W218 (Or.inr (sn91 hw))
  have F224 := F204.other W218 (Or.inr (sn92 hw))
  have F225 := F205.other W218 (Or.inr (sn93 hw))
  have F226 := F206.other W218 (Or.inr (sn94 hw))
  have F227 := F207.other W218 (Or.inr (sn95 hw))
  have F228 := F208.same W218
  have E229 := E209.wr W218
  have F230 := F210.other W218 (Or.inl (Nat.ne_of_gt lt_a_a50))
  have F231 := F211.other W218 (Or.inl (Nat.ne_of_gt lt_a_a50))
  have F232 := F212.other W218 (Or.inl (Nat.ne_of_gt lt_a_a50))
  have E233 := E213.wr W218
  have F234 := F214.other W218 (Or.inl (Nat.ne_of_gt lt_a_a106))
  have F235 := F215.other W218 (Or.inl (Nat.ne_of_gt lt_a_a106))
  have F236 := F216.other W218 (Or.inl (Nat.ne_of_gt lt_a_a106))
  exact K.ret dS3_80 (by decide) (by decide) ⟨rfl, K219, F224⟩
theorem rmSB (l : Launch) (Z : State) (a0 : Array Value) (hw : Hw Z a0) (a b : Addr) (c r p : Int64) (h : Heap) (n0 : Nat) (BE : Exa Z h b "com/example/entry_by_measure/entrybymeasure/model/BurstRateLimit") (B1 : Fld Z h b "com/example/entry_by_measure/entrybymeasure/model/BurstRateLimit" "capacity" "J" (.long c)) (B2 : Fld Z h b "com/example/entry_by_measure/entrybymeasure/model/BurstRateLimit" "refill" "J" (.long r)) (B3 : Fld Z h b "com/example/entry_by_measure/entrybymeasure/model/BurstRateLimit" "periodMillis" "J" (.long p)) (nba : b ≠ a) (PE : Exa Z h a "com/example/entry_by_measure/entrybymeasure/service/TokenBucket$Shape") (P0 : Fld Z h a "com/example/entry_by_measure/entrybymeasure/service/TokenBucket$Shape" "capacity" "J" (.long 0)) (P1 : Fld Z h a "com/example/entry_by_measure/entrybymeasure/service/TokenBucket$Shape" "perToken" "J" (.long 0)) (P2 : Fld Z h a "com/example/entry_by_measure/entrybymeasure/service/TokenBucket$Shape" "refillParts" "J" (.long 0)) (P3 : Fld Z h a "com/example/entry_by_measure/entrybymeasure/service/TokenBucket$Shape" "fullParts" "J" (.long 0)) (P4 : Fld Z h a "com/example/entry_by_measure/entrybymeasure/service/TokenBucket$Shape" "token" "Lcom/example/entry_by_measure/entrybymeasure/service/Divisor;" .null) (P5 : Fld Z h a "com/example/entry_by_measure/entrybymeasure/service/TokenBucket$Shape" "refill" "Lcom/example/entry_by_measure/entrybymeasure/service/Divisor;" .null) (P6 : Fld Z h a "com/example/entry_by_measure/entrybymeasure/service/TokenBucket$Shape" "oneTakenFullInMillis" "J" (.long 0)) (P7 : Fld Z h a "com/example/entry_by_measure/entrybymeasure/service/TokenBucket$Shape" "oneTaken" "Lcom/example/entry_by_measure/entrybymeasure/model/Decision;" .null) (ga : n0 ≤ a) (hS : Sts Z) (hold : Ext Z.heap h) (hz : Z.heap.size ≤ n0) (hT : Three c r p) : Con l Z ⟨"com/example/entry_by_measure/entrybymeasure/service/TokenBucket$Shape", "<init>", "(Lcom/example/entry_by_measure/entrybymeasure/model/BurstRateLimit;)V"⟩ prog_55_method_1_code 2 none ⟨9, 39, 149, 149⟩ #[.ref a, .ref b] h n0 (fun vr h' => vr = none ∧ (Keep h h' [a] ∧ Fld Z h' a "com/example/entry_by_measure/entrybymeasure/service/TokenBucket$Shape" "fullParts" "J" (.long (c * p)))) := by
  refine Con.of pnSB (fun m_ => efSB m_ a b) (fun E K => ?_)
  have K1 : Keep h h [a] := Keep.refl _ _
  refine K.aloadN dSB_0 rfl rfl ?_
  refine K.aloadN dSB_1 rfl rfl ?_
  refine K.callV (a := b) [] [.ref a] 1 0 0 dSB_2 (wd43 hw) (wd44 hw) (wd46 hw) (wd45 hw) (wd10 hw) (wd47 hw) (by decide) (rmGC l Z a0 hw b c h n0 B1) BE rfl (lenOf pd_30 rfl) rfl (Nat.le_of_eq rfl) (by decide) (by decide) rfl rfl (by decide) (by decide) (goP ?_)
  refine K.aloadN dSB_5 rfl rfl ?_
  refine K.callV (a := b) [] [.long c, .ref a] 3 0 0 dSB_6 (wd48 hw) (wd49 hw) (wd51 hw) (wd50 hw) (wd10 hw) (wd52 hw) (by decide) (rmGR l Z a0 hw b r h n0 B2) BE rfl (lenOf pd_30 rfl) rfl (Nat.le_of_eq rfl) (by decide) (by decide) rfl rfl (by decide) (by decide) (goP ?_)
  refine K.aloadN dSB_9 rfl rfl ?_
  refine K.callV (a := b) [] [.long r, .long c, .ref a] 5 0 0 dSB_10 (wd53 hw) (wd54 hw) (wd56 hw) (wd55 hw) (wd10 hw) (wd57 hw) (by decide) (rmGP l Z a0 hw b p h n0 B3) BE rfl (lenOf pd_30 rfl) rfl (Nat.le_of_eq rfl) (by decide) (by decide) rfl rfl (by decide) (by decide) (goP ?_)
  have hold2 := own_hold hold K1 (by intro w_ hw_; rw [List.mem_singleton.mp hw_]; exact Nat.le_trans hz ga)
  refine K.callI (a := a) [.long c, .long r, .long p] [] 0 39 149 dSB_13 rfl rfl (wd58 hw) (wd59 hw) (wd7 hw) (wd60 hw) (by decide) (rmS3 l Z a0 hw a c r p h n0 PE P0 P1 P2 P3 P4 P5 P6 P7 ga hS hold2 hz hT) rfl (lenOf pd_32 rfl) rfl (Nat.le_of_eq rfl) (by decide) (by decide) rfl rfl (by decide) (by decide) (goU fun h3 q4 => ?_)
  obtain ⟨K5, F6⟩ := q4
  have K7 := K1.trans K5 (allS (Or.inl (mg 0 rfl)) all0)
  have E8 := PE.keep K5
  have E9 := BE.keep K5
  have F10 := B1.keep K5 (ninS nba nin0)
  have F11 := B2.keep K5 (ninS nba nin0)
  have F12 := B3.keep K5 (ninS nba nin0)
  exact K.ret dSB_16 (by decide) (by decide) ⟨rfl, K7, F6⟩
theorem rm0 (l : Launch) (Z : State) (a0 : Array Value) (hw : Hw Z a0) (a b e d : Int64) (i : Int32) (h : Heap) (n0 : Nat) (hS : Sts Z) (hold : Ext Z.heap h) (hz : Z.heap.size ≤ n0) : Con l Z x code maxLocals ret room_1 #[.long a, .long b, .long e, .long d, .int i] h n0 (fun v h' => v = some (.int 1)) := by
  refine Con.of pn0 (fun m_ => ef0 m_ a b e d i) (fun E K => ?_)
  have K1 : Keep h h [] := Keep.refl _ _
  refine K.lconst (1 : Int64) d0_0 rfl ?_
  refine K.lloadN d0_1 rfl ?_
  refine K.ldc2J d0_2 (wd0 hw) ?_
  refine K.land d0_5 ?_
  refine K.callS [.long 1, .long (a &&& (9223372036854775807 : Int64))] [] 0 0 0 d0_6 (wd1 hw) (wd2 hw) (wd3 hw) (wd4 hw) (by decide) (rmX l Z a0 hw (1 : Int64) (a &&& (9223372036854775807 : Int64)) h n0) rfl (lenOf pd_2 rfl) rfl (Nat.le_of_eq rfl) (by decide) (by decide) rfl rfl (by decide) (by decide) (goP ?_)
  refine K.lstore #[oJ a, oT, oJ b, oT, oJ e, oT, oJ d, oT, oI i, oJ (own_max (1 : Int64) (a &&& (9223372036854775807 : Int64))), oT, oU, oU, oU, oU, oU, oU, oU, oU, oU, oU, oU, oU] d0_9 rfl ?_
  refine K.lconst (1 : Int64) d0_11 rfl ?_
  refine K.lloadN d0_12 rfl ?_
  refine K.ldc2J d0_13 (wd0 hw) ?_
  refine K.land d0_16 ?_
  refine K.ldc2J d0_17 (wd0 hw) ?_
  refine K.lload d0_20 rfl ?_
  refine K.ldiv d0_22 (own_ne (own_pos _)) ?_
  refine K.lrem d0_23 (own_ne (own_q1 a)) ?_
  refine K.ladd d0_24 ?_
  refine K.lstore #[oJ a, oT, oJ b, oT, oJ e, oT, oJ d, oT, oI i, oJ (own_max (1 : Int64) (a &&& (9223372036854775807 : Int64))), oT, oJ ((1 : Int64) + ((b &&& (9223372036854775807 : Int64)) % ((9223372036854775807 : Int64) / (own_max (1 : Int64) (a &&& (9223372036854775807 : Int64)))))), oT, oU, oU, oU, oU, oU, oU, oU, oU, oU, oU] d0_25 rfl ?_
  refine K.lconst (1 : Int64) d0_27 rfl ?_
  refine K.lload d0_28 rfl ?_
  refine K.ldc2J d0_30 (wd0 hw) ?_
  refine K.land d0_33 ?_
  refine K.callS [.long 1, .long (e &&& (9223372036854775807 : Int64))] [] 0 0 0 d0_34 (wd1 hw) (wd2 hw) (wd3 hw) (wd4 hw) (by decide) (rmX l Z a0 hw (1 : Int64) (e &&& (9223372036854775807 : Int64)) h n0) rfl (lenOf pd_2 rfl) rfl (Nat.le_of_eq rfl) (by decide) (by decide) rfl rfl (by decide) (by decide) (goP ?_)
  refine K.lstore #[oJ a, oT, oJ b, oT, oJ e, oT, oJ d, oT, oI i, oJ (own_max (1 : Int64) (a &&& (9223372036854775807 : Int64))), oT, oJ ((1 : Int64) + ((b &&& (9223372036854775807 : Int64)) % ((9223372036854775807 : Int64) / (own_max (1 : Int64) (a &&& (9223372036854775807 : Int64)))))), oT, oJ (own_max (1 : Int64) (e &&& (9223372036854775807 : Int64))), oT, oU, oU, oU, oU, oU, oU, oU, oU] d0_37 rfl ?_
  refine cut (P := ∀ c r p : Int64, Three c r p → Wk E h 0 0 39 #[oJ a, oT, oJ b, oT, oJ e, oT, oJ d, oT, oI i, oJ c, oT, oJ p, oT, oJ r, oT, oU, oU, oU, oU, oU, oU, oU, oU] []) (fun J2 => ?_) ?_
  · exact J2 _ _ _ (own_three _ _ _)
  intro c r p hT
  refine K.newO 1 8 d0_39 (wd5 hw) (wd6 hw) (wd7 hw) rfl rfl (by decide) (by decide) (fun h4 a3 ha5 g6 X7 A8 D9 => ?_)
  have ks_a3 := ha_ge K1.1 ha5
  have K10 := K1.ext X7
  have F11 : Fld Z h4 a3 "com/example/entry_by_measure/entrybymeasure/service/TokenBucket$Shape" "capacity" "J" (.long 0) := D9 (Or.inr (wd63 hw)) (ty := .long) (by decide)
  have F12 : Fld Z h4 a3 "com/example/entry_by_measure/entrybymeasure/service/TokenBucket$Shape" "perToken" "J" (.long 0) := D9 (Or.inr (wd65 hw)) (ty := .long) (by decide)
  have F13 : Fld Z h4 a3 "com/example/entry_by_measure/entrybymeasure/service/TokenBucket$Shape" "refillParts" "J" (.long 0) := D9 (Or.inr (wd67 hw)) (ty := .long) (by decide)
  have F14 : Fld Z h4 a3 "com/example/entry_by_measure/entrybymeasure/service/TokenBucket$Shape" "fullParts" "J" (.long 0) := D9 (Or.inr (wd69 hw)) (ty := .long) (by decide)
  have F15 : Fld Z h4 a3 "com/example/entry_by_measure/entrybymeasure/service/TokenBucket$Shape" "token" "Lcom/example/entry_by_measure/entrybymeasure/service/Divisor;" .null := D9 (Or.inr (wd236 hw)) (ty := (.object "com/example/entry_by_measure/entrybymeasure/service/Divisor")) (by decide)
  have F16 : Fld Z h4 a3 "com/example/entry_by_measure/entrybymeasure/service/TokenBucket$Shape" "refill" "Lcom/example/entry_by_measure/entrybymeasure/service/Divisor;" .null := D9 (Or.inr (wd282 hw)) (ty := (.object "com/example/entry_by_measure/entrybymeasure/service/Divisor")) (by decide)
  have F17 : Fld Z h4 a3 "com/example/entry_by_measure/entrybymeasure/service/TokenBucket$Shape" "oneTakenFullInMillis" "J" (.long 0) := D9 (Or.inr (wd298 hw)) (ty := .long) (by decide)
  have F18 : Fld Z h4 a3 "com/example/entry_by_measure/entrybymeasure/service/TokenBucket$Shape" "oneTaken" "Lcom/example/entry_by_measure/entrybymeasure/model/Decision;" .null := D9 (Or.inr (wd320 hw)) (ty := (.object "com/example/entry_by_measure/entrybymeasure/model/Decision")) (by decide)
  refine K.dup d0_42 rfl ?_
  refine K.newO 2 11 d0_43 (wd8 hw) (wd9 hw) (wd10 hw) rfl rfl (by decide) (by decide) (fun h20 a19 ha21 g22 X23 A24 D25 => ?_)
  have ks_a19 := ha_ge K10.1 ha21
  have lt_a3_a19 : a3 < a19 := by rw [ha21]; exact A8.lt
  have K26 := K10.ext X23
  have E27 := A8.ext X23
  have F28 := F11.ext X23
  have F29 := F12.ext X23
  have F30 := F13.ext X23
  have F31 := F14.ext X23
  have F32 := F15.ext X23
  have F33 := F16.ext X23
  have F34 := F17.ext X23
  have F35 := F18.ext X23
  have F36 : Fld Z h20 a19 "com/example/entry_by_measure/entrybymeasure/model/BurstRateLimit" "capacity" "J" (.long 0) := D25 (Or.inr (wd31 hw)) (ty := .long) (by decide)
  have F37 : Fld Z h20 a19 "com/example/entry_by_measure/entrybymeasure/model/BurstRateLimit" "refill" "J" (.long 0) := D25 (Or.inr (wd34 hw)) (ty := .long) (by decide)
  have F38 : Fld Z h20 a19 "com/example/entry_by_measure/entrybymeasure/model/BurstRateLimit" "periodMillis" "J" (.long 0) := D25 (Or.inr (wd38 hw)) (ty := .long) (by decide)
  refine K.dup d0_46 rfl ?_
  refine K.lload d0_47 rfl ?_
  refine K.lload d0_49 rfl ?_
  refine K.lload d0_51 rfl ?_
  refine K.callI (a := a19) [.long c, .long r, .long p] [.ref a19, .ref a3, .ref a3] 3 14 163 d0_53 rfl rfl (wd11 hw) (wd12 hw) (wd10 hw) (wd13 hw) (by decide) (rmBI l Z a0 hw a19 c r p h20 n0 A24 F36 F37 F38 g22 hT) rfl (lenOf pd_32 rfl) rfl (Nat.le_of_eq rfl) (by decide) (by decide) rfl rfl (by decide) (by decide) (goU fun h39 q40 => ?_)
  obtain ⟨K41, E42, F43, F44, F45⟩ := q40
  have K46 := K26.trans K41 (allS (Or.inr ks_a19) all0)
  have E47 := E27.keep K41
  have F48 := F28.keep K41 (ninS (Nat.ne_of_lt lt_a3_a19) nin0)
  have F49 := F29.keep K41 (ninS (Nat.ne_of_lt lt_a3_a19) nin0)
  have F50 := F30.keep K41 (ninS (Nat.ne_of_lt lt_a3_a19) nin0)
  have F51 := F31.keep K41 (ninS (Nat.ne_of_lt lt_a3_a19) nin0)
  have F52 := F32.keep K41 (ninS (Nat.ne_of_lt lt_a3_a19) nin0)
  have F53 := F33.keep K41 (ninS (Nat.ne_of_lt lt_a3_a19) nin0)
  have F54 := F34.keep K41 (ninS (Nat.ne_of_lt lt_a3_a19) nin0)
  have F55 := F35.keep K41 (ninS (Nat.ne_of_lt lt_a3_a19) nin0)
  have E56 := A24.keep K41
  have hold57 := own_hold hold K46 (by intro w_ hw_; cases hw_)
  refine K.callI (a := a3) [.ref a19] [.ref a3] 1 53 312 d0_56 rfl rfl (wd40 hw) (wd41 hw) (wd7 hw) (wd42 hw) (by decide) (rmSB l Z a0 hw a3 a19 c r p h39 n0 E42 F43 F44 F45 (Nat.ne_of_gt lt_a3_a19) E47 F48 F49 F50 F51 F52 F53 F54 F55 g6 hS hold57 hz hT) rfl (lenOf pd_33 rfl) rfl (Nat.le_of_eq rfl) (by decide) (by decide) rfl rfl (by decide) (by decide) (goU fun h58 q59 => ?_)
  obtain ⟨K60, F61⟩ := q59
  have K62 := K46.trans K60 (allS (Or.inr ks_a3) all0)
  have E63 := E47.keep K60
  have E64 := E42.keep K60
  have F65 := F43.keep K60 (ninS (Nat.ne_of_gt lt_a3_a19) nin0)
  have F66 := F44.keep K60 (ninS (Nat.ne_of_gt lt_a3_a19) nin0)
  have F67 := F45.keep K60 (ninS (Nat.ne_of_gt lt_a3_a19) nin0)
  refine K.astore #[oJ a, oT, oJ b, oT, oJ e, oT, oJ d, oT, oI i, oJ c, oT, oJ p, oT, oJ r, oT, oA a3, oU, oU, oU, oU, oU, oU, oU] d0_59 rfl rfl ?_
  refine K.lload d0_61 rfl ?_
  refine K.lload d0_63 rfl ?_
  refine K.lmul d0_65 ?_
  refine K.lstore #[oJ a, oT, oJ b, oT, oJ e, oT, oJ d, oT, oI i, oJ c, oT, oJ p, oT, oJ r, oT, oA a3, oJ (c * p), oT, oU, oU, oU, oU, oU] d0_66 rfl ?_
  refine K.iload d0_68 rfl ?_
  refine K.iconst (1 : Int32) d0_70 rfl ?_
  refine K.iand d0_71 ?_
  refine cut (P := ∀ q : Int64, Wk E h58 53 312 92 #[oJ a, oT, oJ b, oT, oJ e, oT, oJ d, oT, oI i, oJ c, oT, oJ p, oT, oJ r, oT, oA a3, oJ (c * p), oT, oU, oU, oU, oU, oU] [.long q]) (fun J68 => ?_) ?_
  · refine K.if_eq d0_72 (fun hc69 => ?_) (fun hc69 => ?_)
    · refine K.lload d0_90 rfl ?_
      exact J68 _
    · refine K.lload d0_75 rfl ?_
      refine K.ldc2J d0_77 (wd0 hw) ?_
      refine K.lsub d0_80 ?_
      refine K.iload d0_81 rfl ?_
      refine K.iconst (1 : Int32) d0_83 rfl ?_
      refine K.ishr d0_84 ?_
      refine K.i2l d0_85 ?_
      refine K.ladd d0_86 ?_
      refine K.goto d0_87 ?_
      exact J68 _
  intro q
  refine K.lstore #[oJ a, oT, oJ b, oT, oJ e, oT, oJ d, oT, oI i, oJ c, oT, oJ p, oT, oJ r, oT, oA a3, oJ (c * p), oT, oJ q, oT, oU, oU, oU] d0_92 rfl ?_
  refine K.lload d0_94 rfl ?_
  refine K.lconst (0 : Int64) d0_96 rfl ?_
  refine cut (P := ∀ z : Int32, z = own_z (c * p) q → Wk E h58 53 312 116 #[oJ a, oT, oJ b, oT, oJ e, oT, oJ d, oT, oI i, oJ c, oT, oJ p, oT, oJ r, oT, oA a3, oJ (c * p), oT, oJ q, oT, oU, oU, oU] [.int z]) (fun J70 => ?_) ?_
  · refine K.lc_ge d0_97 d0_98 (fun hc71 => ?_) (fun hc71 => ?_)
    · refine K.lload d0_101 rfl ?_
      refine K.lload d0_103 rfl ?_
      refine K.lsub d0_105 ?_
      refine K.lconst (0 : Int64) d0_106 rfl ?_
      refine K.lc_le d0_107 d0_108 (fun hc72 => ?_) (fun hc72 => ?_)
      · refine K.iconst (1 : Int32) d0_111 rfl ?_
        refine K.goto d0_112 ?_
        exact J70 _ (by rw [own_z, if_pos hc71, if_pos hc72])
      · refine K.iconst (0 : Int32) d0_115 rfl ?_
        exact J70 _ (by rw [own_z, if_pos hc71, if_neg hc72])
    · refine K.iconst (1 : Int32) d0_111 rfl ?_
      refine K.goto d0_112 ?_
      exact J70 _ (by rw [own_z, if_neg hc71])
  intro z hz_
  refine K.istore #[oJ a, oT, oJ b, oT, oJ e, oT, oJ d, oT, oI i, oJ c, oT, oJ p, oT, oJ r, oT, oA a3, oJ (c * p), oT, oJ q, oT, oI z, oU, oU] d0_116 rfl ?_
  refine K.aload d0_118 rfl rfl ?_
  refine K.lload d0_120 rfl ?_
  refine K.ldc2J d0_122 (wd0 hw) ?_
  refine K.lsub d0_125 ?_
  refine K.callV (a := a3) [.long ((c * p) - (9223372036854775807 : Int64))] [] 0 53 312 d0_126 (wd321 hw) (wd322 hw) (wd324 hw) (wd323 hw) (wd7 hw) (wd325 hw) (by decide) (rmHO l Z a0 hw a3 (c * p) ((c * p) - (9223372036854775807 : Int64)) h58 n0 F61) E63 rfl (lenOf pd_34 rfl) rfl (Nat.le_of_eq rfl) (by decide) (by decide) rfl rfl (by decide) (by decide) (goP ?_)
  refine K.istore #[oJ a, oT, oJ b, oT, oJ e, oT, oJ d, oT, oI i, oJ c, oT, oJ p, oT, oJ r, oT, oA a3, oJ (c * p), oT, oJ q, oT, oI z, oI (own_h (c * p) ((c * p) - (9223372036854775807 : Int64))), oU] d0_129 rfl ?_
  refine K.aload d0_131 rfl rfl ?_
  refine K.lload d0_133 rfl ?_
  refine K.ldc2J d0_135 (wd0 hw) ?_
  refine K.lsub d0_138 ?_
  refine K.lconst (1 : Int64) d0_139 rfl ?_
  refine K.lsub d0_140 ?_
  refine K.callV (a := a3) [.long (((c * p) - (9223372036854775807 : Int64)) - (1 : Int64))] [] 0 53 312 d0_141 (wd321 hw) (wd322 hw) (wd324 hw) (wd323 hw) (wd7 hw) (wd325 hw) (by decide) (rmHO l Z a0 hw a3 (c * p) (((c * p) - (9223372036854775807 : Int64)) - (1 : Int64)) h58 n0 F61) E63 rfl (lenOf pd_34 rfl) rfl (Nat.le_of_eq rfl) (by decide) (by decide) rfl rfl (by decide) (by decide) (goP ?_)
  refine K.istore #[oJ a, oT, oJ b, oT, oJ e, oT, oJ d, oT, oI i, oJ c, oT, oJ p, oT, oJ r, oT, oA a3, oJ (c * p), oT, oJ q, oT, oI z, oI (own_h (c * p) ((c * p) - (9223372036854775807 : Int64))), oI (own_h (c * p) (((c * p) - (9223372036854775807 : Int64)) - (1 : Int64)))] d0_144 rfl ?_
  refine K.aload d0_146 rfl rfl ?_
  refine K.lload d0_148 rfl ?_
  refine K.callV (a := a3) [.long q] [] 0 53 312 d0_150 (wd321 hw) (wd322 hw) (wd324 hw) (wd323 hw) (wd7 hw) (wd325 hw) (by decide) (rmHO l Z a0 hw a3 (c * p) q h58 n0 F61) E63 rfl (lenOf pd_34 rfl) rfl (Nat.le_of_eq rfl) (by decide) (by decide) rfl rfl (by decide) (by decide) (goP ?_)
  refine K.iload d0_153 rfl ?_
  refine K.ic_ne d0_155 (fun _ => ?_) (fun u => absurd (own_law1 hT hz_) u)
  refine K.iload d0_158 rfl ?_
  refine K.if_eq d0_160 (fun u => absurd u (own_law2 hT)) (fun _ => ?_)
  refine K.iload d0_163 rfl ?_
  refine K.if_ne d0_165 (fun _ => ?_) (fun u => absurd (own_law3 hT) u)
  refine K.aload d0_168 rfl rfl ?_
  refine K.lload d0_170 rfl ?_
  refine K.callV (a := a3) [.long (c * p)] [] 0 53 312 d0_172 (wd321 hw) (wd322 hw) (wd324 hw) (wd323 hw) (wd7 hw) (wd325 hw) (by decide) (rmHO l Z a0 hw a3 (c * p) (c * p) h58 n0 F61) E63 rfl (lenOf pd_34 rfl) rfl (Nat.le_of_eq rfl) (by decide) (by decide) rfl rfl (by decide) (by decide) (goP ?_)
  refine K.if_eq d0_175 (fun u => absurd u (own_law4 hT)) (fun _ => ?_)
  refine K.aload d0_178 rfl rfl ?_
  refine K.lconst (0 : Int64) d0_180 rfl ?_
  refine K.callV (a := a3) [.long 0] [] 0 53 312 d0_181 (wd321 hw) (wd322 hw) (wd324 hw) (wd323 hw) (wd7 hw) (wd325 hw) (by decide) (rmHO l Z a0 hw a3 (c * p) (0 : Int64) h58 n0 F61) E63 rfl (lenOf pd_34 rfl) rfl (Nat.le_of_eq rfl) (by decide) (by decide) rfl rfl (by decide) (by decide) (goP ?_)
  refine K.if_eq d0_184 (fun u => absurd u (own_law5 hT)) (fun _ => ?_)
  refine K.iconst (1 : Int32) d0_187 rfl ?_
  refine K.goto d0_188 ?_
  exact K.ireturn d0_192 (Or.inr (Or.inl rfl)) rfl (by decide) (by decide) rfl
theorem comes_1 {Post : Tables → Env → Array Value → State → Outcome → State → Prop} (hpost : ∀ tb e args s v u, (limb_1_1.after args s (.returned v) u = true ∧ limb_1_2.after args s (.returned v) u = true ∧ True) → ReturnedEndW s (.returned v) u (Jvm.fieldLocs frame_1_writes args s ++ Jvm.arrayLocs frame_1_arrays args s ++ Jvm.staticLocs frame_1_statics s) 104 5568 → Post tb e args s (.returned v) u) :
    ArmFor flags0 classFile x code maxLocals ret World_1 tables_1 room_1 Calls_1 rest_1 Pre_1 Post := by
  intro l hfl _ _ p e ha hc hk s m args below hf hA hF happ hP
  obtain ⟨hcalls, hrest, hpre⟩ := hP
  obtain ⟨-, -, -, hnamed, -, -, -, hat⟩ := (Spec.applies_iff hf).mp happ
  obtain ⟨hg, hn⟩ := and_e (Cond.before_iff.mp (show (Jvm.Cond.and given_1 narrow_1).before args s = true from hpre))
  obtain ⟨hcount, hk0⟩ := and_e hg
  obtain ⟨ha0, hk1⟩ := and_e hk0
  obtain ⟨ha1, hk2⟩ := and_e hk1
  obtain ⟨ha2, hk3⟩ := and_e hk2
  obtain ⟨ha3, hk4⟩ := and_e hk3
  obtain ⟨w0, w1, w2, w3, w4, rfl⟩ : ∃ w0 w1 w2 w3 w4 : Value, args = #[w0, w1, w2, w3, w4] := by
    have hs : args.size = 5 := by simpa [Cond.value, given_1] using hcount
    obtain ⟨L⟩ := args
    match L, hs with
    | [w0, w1, w2, w3, w4], _ => exact ⟨w0, w1, w2, w3, w4, rfl⟩
  have hw := fun d (hd : d ∈ tables_1) => atoms_spec (ws := Jvm.Cond.code x code maxLocals ret :: tables_1) hat d (List.mem_cons_of_mem _ hd)
  obtain ⟨i0, e0⟩ := isL_v ha0
  obtain rfl : w0 = (.long i0) := Option.some.inj e0
  obtain ⟨i1, e1⟩ := isL_v ha1
  obtain rfl : w1 = (.long i1) := Option.some.inj e1
  obtain ⟨i2, e2⟩ := isL_v ha2
  obtain rfl : w2 = (.long i2) := Option.some.inj e2
  obtain ⟨i3, e3⟩ := isL_v ha3
  obtain rfl : w3 = (.long i3) := Option.some.inj e3
  obtain ⟨i4, e4⟩ := is_v hk4
  obtain rfl : w4 = (.int i4) := Option.some.inj e4
  obtain ⟨hsets, hown0⟩ := atoms_of _ (rest_1_c_eq ▸ (show rest_1_c.before _ s = true from hrest))
  have hold : Ext s.heap s.heap := ⟨Nat.le_refl _, fun _ _ q => q⟩
  have hS : Sts s := by
    obtain ⟨t1, et1⟩ := exa_v (Cond.before_iff.mp (hsets _ (mg 2 rfl)))
    obtain ⟨m1, g1, r1⟩ := own_obj et1 (n := 1) rfl (hsets _ (mg 2 rfl)) (hsets _ (mg 3 rfl)) (hsets _ (mg 4 rfl)) (hsets _ (mg 6 rfl)) (hsets _ (mg 7 rfl))
    obtain ⟨t2, et2⟩ := exa_v (Cond.before_iff.mp (hsets _ (mg 120 rfl)))
    obtain ⟨pa, epa⟩ := arr_v (Cond.before_iff.mp (hsets _ (mg 16 rfl)))
    obtain ⟨pf, Ap, E⟩ := own_arr epa (hsets _ (mg 16 rfl)) (hsets _ (mg 18 rfl)) (by decide)
    refine ⟨⟨t1, m1, g1, Sta.start et1 (Or.inl (hsets _ (mg 1 rfl))), r1⟩, ⟨t2, Sta.start et2 (Or.inl (hsets _ (mg 119 rfl))), Fld.start ((fld_at et2).symm.trans (eqv_i (Term.int_eval 0) (Cond.before_iff.mp (hsets _ (mg 121 rfl)))))⟩, pa, pf, Sta.start epa (Or.inl (hsets _ (mg 9 rfl))), Ap, fun i h1 h2 => ?_⟩
    rcases (show i = 1 ∨ i = 2 ∨ i = 3 ∨ i = 4 ∨ i = 5 ∨ i = 6 ∨ i = 7 ∨ i = 8 ∨ i = 9 ∨ i = 10 ∨ i = 11 ∨ i = 12 ∨ i = 13 ∨ i = 14 ∨ i = 15 ∨ i = 16 by omega) with rfl | rfl | rfl | rfl | rfl | rfl | rfl | rfl | rfl | rfl | rfl | rfl | rfl | rfl | rfl | rfl
    · exact own_el E (by decide) rfl (hsets _ (mg 20 rfl)) (hsets _ (mg 21 rfl)) (hsets _ (mg 22 rfl)) (hsets _ (mg 24 rfl)) (hsets _ (mg 25 rfl))
    · exact own_el E (by decide) rfl (hsets _ (mg 27 rfl)) (hsets _ (mg 28 rfl)) (hsets _ (mg 29 rfl)) (hsets _ (mg 31 rfl)) (hsets _ (mg 32 rfl))
    · exact own_el E (by decide) rfl (hsets _ (mg 33 rfl)) (hsets _ (mg 34 rfl)) (hsets _ (mg 35 rfl)) (hsets _ (mg 37 rfl)) (hsets _ (mg 38 rfl))
    · exact own_el E (by decide) rfl (hsets _ (mg 39 rfl)) (hsets _ (mg 40 rfl)) (hsets _ (mg 41 rfl)) (hsets _ (mg 43 rfl)) (hsets _ (mg 44 rfl))
    · exact own_el E (by decide) rfl (hsets _ (mg 45 rfl)) (hsets _ (mg 46 rfl)) (hsets _ (mg 47 rfl)) (hsets _ (mg 49 rfl)) (hsets _ (mg 50 rfl))
    · exact own_el E (by decide) rfl (hsets _ (mg 51 rfl)) (hsets _ (mg 52 rfl)) (hsets _ (mg 53 rfl)) (hsets _ (mg 55 rfl)) (hsets _ (mg 56 rfl))
    · exact own_el E (by decide) rfl (hsets _ (mg 57 rfl)) (hsets _ (mg 58 rfl)) (hsets _ (mg 59 rfl)) (hsets _ (mg 61 rfl)) (hsets _ (mg 62 rfl))
    · exact own_el E (by decide) rfl (hsets _ (mg 63 rfl)) (hsets _ (mg 64 rfl)) (hsets _ (mg 65 rfl)) (hsets _ (mg 67 rfl)) (hsets _ (mg 68 rfl))
    · exact own_el E (by decide) rfl (hsets _ (mg 69 rfl)) (hsets _ (mg 70 rfl)) (hsets _ (mg 71 rfl)) (hsets _ (mg 73 rfl)) (hsets _ (mg 74 rfl))
    · exact own_el E (by decide) rfl (hsets _ (mg 76 rfl)) (hsets _ (mg 77 rfl)) (hsets _ (mg 78 rfl)) (hsets _ (mg 80 rfl)) (hsets _ (mg 81 rfl))
    · exact own_el E (by decide) rfl (hsets _ (mg 82 rfl)) (hsets _ (mg 83 rfl)) (hsets _ (mg 84 rfl)) (hsets _ (mg 86 rfl)) (hsets _ (mg 87 rfl))
    · exact own_el E (by decide) rfl (hsets _ (mg 88 rfl)) (hsets _ (mg 89 rfl)) (hsets _ (mg 90 rfl)) (hsets _ (mg 92 rfl)) (hsets _ (mg 93 rfl))
    · exact own_el E (by decide) rfl (hsets _ (mg 94 rfl)) (hsets _ (mg 95 rfl)) (hsets _ (mg 96 rfl)) (hsets _ (mg 98 rfl)) (hsets _ (mg 99 rfl))
    · exact own_el E (by decide) rfl (hsets _ (mg 100 rfl)) (hsets _ (mg 101 rfl)) (hsets _ (mg 102 rfl)) (hsets _ (mg 104 rfl)) (hsets _ (mg 105 rfl))
    · exact own_el E (by decide) rfl (hsets _ (mg 106 rfl)) (hsets _ (mg 107 rfl)) (hsets _ (mg 108 rfl)) (hsets _ (mg 110 rfl)) (hsets _ (mg 111 rfl))
    · exact own_el E (by decide) rfl (hsets _ (mg 112 rfl)) (hsets _ (mg 113 rfl)) (hsets _ (mg 114 rfl)) (hsets _ (mg 116 rfl)) (hsets _ (mg 117 rfl))
  obtain ⟨n, o, h1, h2, h3, _, L, rfl, ⟨rfl, N⟩, hq⟩ := rm0 l s _ hw i0 i1 i2 i3 i4  s.heap s.heap.size hS hold (Nat.le_refl _) (Nat.le_refl _) tables_1 p e ha hc hk s m _ below hf ((Spec.applies_iff_loose hf).mp happ).1 ⟨rfl, State.Warmed39.refl s, rfl⟩ trivial
  refine ⟨n, _, h1, h2, h3, hpost _ _ _ _ _ _ ⟨Cond.after_iff.mpr rfl, Cond.after_iff.mpr (eq_i res_at (Term.int_eval (1)) rfl), trivial⟩ ⟨hq.1, hq.2.1, hq.2.2.1, (hq.2.2.2.sift fun y hy => Or.inr (N y hy)).mono (by decide) (by decide)⟩⟩
theorem main_1_1 : Claimed_1_1 := comes_1 fun _ _ _ _ _ _ h hF => ⟨h.1, hF⟩
theorem main_1_2 : Claimed_1_2 := comes_1 fun _ _ _ _ _ _ h hF => ⟨h.2.1, hF⟩
end Jvm.Pilot.@@N@@
namespace Jvm.Pilot.@@N@@
open Jvm Jvm.ClassFile Sem Op Lib Jvm.Free Jvm.Stand Jvm.Pilot.@@N@@.Jvm.D
/-! MADE BY PROGRAM (witnessworld.py) out of the Statement's table words and the real class files: 30 classes; the members and pool entries that the words name. The judged class is class 1, her method 1. -/
namespace start1
open Jvm.ClassFile
def u (s : String) : CpInfo := .utf8 (stringToUtf16 s)
/-- a pool by its gaps: so many unusable entries, then the entry; so many at the end -/
def gap : Nat → List CpInfo → List CpInfo
  | 0, r => r
  | n + 1, r => .unusable :: gap n r
def poolList (es : List (Nat × CpInfo)) (last : Nat) : List CpInfo := es.foldr (fun e r => gap e.1 (e.2 :: r)) (gap last [])
def pool (es : List (Nat × CpInfo)) (last : Nat) : Array CpInfo := ⟨poolList es last⟩
def fileOf (pool : Array CpInfo) (this : Nat) (attrs : Array Attribute := #[]) (ms : Array MethodInfo := #[]) (fl : Nat := 33) (sup : Nat := 0) (ifs : Array Nat := #[]) (fds : Array FieldInfo := #[]) : ClassFile where
  minorVersion := 0
  majorVersion := 65
  constantPool := pool
  accessFlags := fl
  thisClass := this
  superClass := sup
  interfaces := ifs
  fields := fds
  methods := ms
  attributes := attrs
def plain (name : String) (sup : Option ClassId) : Class where
  name := name
  kind := .ordinary
  loader := none
  accessFlags := 33
  super := sup
  interfaces := #[]
  cf := none
  fields := #[]
  methods := #[]
  instanceTypes := #[]
  staticTypes := #[]
  resolved := #[]
  callSites := []
  init := .initialized
  statics := none
  mirror := none

def pool0 : Array CpInfo := pool [(5, u "<init>"), (0, u "()V"), (1, .class_ 10), (1, u "java/lang/Object")] 113

def k0c0 : Code := { maxStack := 0, maxLocals := 1, code := object_method_1_code, exceptionTable := #[], attributes := #[] }
def k0m0 : Method := { name := "<init>", desc := "()V", sig := { parameters := [], returnType := none }, accessFlags := 1, code := some k0c0 }
/-- java/lang/Object -/
def k0 : Class := { plain "java/lang/Object" none with
  accessFlags := 33
  interfaces := #[]
  cf := some (fileOf pool0 8 #[] #[{ accessFlags := 1, nameIndex := 5, descriptorIndex := 6, attributes := #[] }] 33 0 #[] #[])
  fields := #[]
  methods := #[k0m0]
  instanceTypes := #[]
  staticTypes := #[]
  resolved := Array.replicate 124 none
  statics := none }

def pool1 : Array CpInfo := pool [(2, .class_ 4), (1, u "java/lang/Object"), (0, u "<init>"), (0, u "()V"), (2, .long 9223372036854775807), (1, .methodref 12 13), (0, .class_ 14), (0, .nameAndType 15 16), (0, u "java/lang/Math"), (0, u "max"), (0, u "(JJ)J"), (0, .class_ 18), (0, u "com/example/entry_by_measure/entrybymeasure/service/TokenBucket$Shape"), (0, .class_ 20), (0, u "com/example/entry_by_measure/entrybymeasure/model/BurstRateLimit"), (0, .methodref 19 22), (0, .nameAndType 5 23), (0, u "(JJJ)V"), (0, .methodref 17 25), (0, .nameAndType 5 26), (0, u "(Lcom/example/entry_by_measure/entrybymeasure/model/BurstRateLimit;)V"), (0, .methodref 17 28), (0, .nameAndType 29 30), (0, u "holds"), (0, u "(J)Z"), (0, .class_ 32), (0, u "com/example/entry_by_measure/entrybymeasure/service/ShapeHoldsPinLaw"), (2, u "law"), (0, u "(JJJJI)Z")] 7

def k1m0 : Method := { name := "<init>", desc := "()V", sig := { parameters := [], returnType := none }, accessFlags := 2, code := none }
def k1c1 : Code := { maxStack := 10, maxLocals := 23, code := code, exceptionTable := #[], attributes := #[] }
def k1m1 : Method := { name := "law", desc := "(JJJJI)Z", sig := { parameters := [.long, .long, .long, .long, .int], returnType := some .boolean }, accessFlags := 9, code := some k1c1 }
/-- com/example/entry_by_measure/entrybymeasure/service/ShapeHoldsPinLaw -/
def k1 : Class := { plain "com/example/entry_by_measure/entrybymeasure/service/ShapeHoldsPinLaw" (some 0) with
  accessFlags := 49
  interfaces := #[]
  cf := some (fileOf pool1 31 #[] #[{ accessFlags := 2, nameIndex := 5, descriptorIndex := 6, attributes := #[] }, { accessFlags := 9, nameIndex := 35, descriptorIndex := 36, attributes := #[] }] 49 2 #[] #[])
  fields := #[]
  methods := #[k1m0, k1m1]
  instanceTypes := #[]
  staticTypes := #[]
  resolved := Array.replicate 44 none
  statics := none }

def pool2 : Array CpInfo := pool [(1, .class_ 2), (0, u "java/lang/Math"), (1, .class_ 6), (1, u "java/lang/Object"), (0, u "<init>"), (0, u "()V"), (89, .class_ 100), (1, u "java/lang/Math$RandomNumberGeneratorHolder"), (20, u "(JJ)J"), (16, .long 4294967295), (3, u "multiplyHigh"), (29, u "negativeZeroFloatBits"), (0, u "J"), (2, u "negativeZeroDoubleBits"), (21, u "max"), (2, u "min"), (43, u "$assertionsDisabled"), (0, u "Z"), (88, u "(II)I"), (2, u "twoToTheDoubleScaleDown"), (0, u "D"), (4, u "twoToTheDoubleScaleUp"), (9, u "E"), (3, u "PI"), (2, u "TAU"), (2, u "DEGREES_TO_RADIANS"), (0, u "RADIANS_TO_DEGREES")] 94

def k2m0 : Method := { name := "<init>", desc := "()V", sig := { parameters := [], returnType := none }, accessFlags := 2, code := none }
def k2c1 : Code := { maxStack := 6, maxLocals := 20, code := jdk_29_method_45_code, exceptionTable := #[], attributes := #[] }
def k2m1 : Method := { name := "multiplyHigh", desc := "(JJ)J", sig := { parameters := [.long, .long], returnType := some .long }, accessFlags := 9, code := some k2c1 }
def k2c2 : Code := { maxStack := 2, maxLocals := 2, code := jdk_29_method_65_code, exceptionTable := #[], attributes := #[] }
def k2m2 : Method := { name := "max", desc := "(II)I", sig := { parameters := [.int, .int], returnType := some .int }, accessFlags := 9, code := some k2c2 }
def k2c3 : Code := { maxStack := 4, maxLocals := 4, code := jdk_29_method_66_code, exceptionTable := #[], attributes := #[] }
def k2m3 : Method := { name := "max", desc := "(JJ)J", sig := { parameters := [.long, .long], returnType := some .long }, accessFlags := 9, code := some k2c3 }
def k2c4 : Code := { maxStack := 2, maxLocals := 2, code := jdk_29_method_69_code, exceptionTable := #[], attributes := #[] }
def k2m4 : Method := { name := "min", desc := "(II)I", sig := { parameters := [.int, .int], returnType := some .int }, accessFlags := 9, code := some k2c4 }
/-- java/lang/Math -/
def k2 : Class := { plain "java/lang/Math" (some 0) with
  accessFlags := 49
  interfaces := #[]
  cf := some (fileOf pool2 1 #[.nestMembers #[98]] #[{ accessFlags := 2, nameIndex := 7, descriptorIndex := 8, attributes := #[] }, { accessFlags := 9, nameIndex := 142, descriptorIndex := 121, attributes := #[] }, { accessFlags := 9, nameIndex := 198, descriptorIndex := 335, attributes := #[] }, { accessFlags := 9, nameIndex := 198, descriptorIndex := 121, attributes := #[] }, { accessFlags := 9, nameIndex := 201, descriptorIndex := 335, attributes := #[] }] 49 4 #[] #[{ accessFlags := 25, nameIndex := 354, descriptorIndex := 339, attributes := #[] }, { accessFlags := 25, nameIndex := 358, descriptorIndex := 339, attributes := #[] }, { accessFlags := 25, nameIndex := 361, descriptorIndex := 339, attributes := #[] }, { accessFlags := 26, nameIndex := 364, descriptorIndex := 339, attributes := #[] }, { accessFlags := 26, nameIndex := 365, descriptorIndex := 339, attributes := #[] }, { accessFlags := 26, nameIndex := 172, descriptorIndex := 173, attributes := #[] }, { accessFlags := 26, nameIndex := 176, descriptorIndex := 173, attributes := #[] }, { accessFlags := 8, nameIndex := 344, descriptorIndex := 339, attributes := #[] }, { accessFlags := 8, nameIndex := 338, descriptorIndex := 339, attributes := #[] }, { accessFlags := 4120, nameIndex := 245, descriptorIndex := 246, attributes := #[] }])
  fields := #[{ name := "E", type := .double, accessFlags := 25, slot := 0, constantValue := 0 }, { name := "PI", type := .double, accessFlags := 25, slot := 1, constantValue := 0 }, { name := "TAU", type := .double, accessFlags := 25, slot := 2, constantValue := 0 }, { name := "DEGREES_TO_RADIANS", type := .double, accessFlags := 26, slot := 3, constantValue := 0 }, { name := "RADIANS_TO_DEGREES", type := .double, accessFlags := 26, slot := 4, constantValue := 0 }, { name := "negativeZeroFloatBits", type := .long, accessFlags := 26, slot := 5, constantValue := 0 }, { name := "negativeZeroDoubleBits", type := .long, accessFlags := 26, slot := 6, constantValue := 0 }, { name := "twoToTheDoubleScaleUp", type := .double, accessFlags := 8, slot := 7, constantValue := 0 }, { name := "twoToTheDoubleScaleDown", type := .double, accessFlags := 8, slot := 8, constantValue := 0 }, { name := "$assertionsDisabled", type := .boolean, accessFlags := 4120, slot := 9, constantValue := 0 }]
  methods := #[k2m0, k2m1, k2m2, k2m3, k2m4]
  instanceTypes := #[]
  staticTypes := #[.double, .double, .double, .double, .double, .long, .long, .double, .double, .boolean]
  resolved := Array.replicate 460 none
  statics := none }

def pool3 : Array CpInfo := pool [(1, .methodref 2 3), (0, .class_ 4), (0, .nameAndType 5 6), (0, u "com/example/entry_by_measure/entrybymeasure/model/BurstRateLimit"), (0, u "capacity"), (0, u "()J"), (0, .methodref 2 8), (0, .nameAndType 9 6), (0, u "refill"), (0, .methodref 2 11), (0, .nameAndType 12 6), (0, u "periodMillis"), (0, .methodref 14 15), (0, .class_ 16), (0, .nameAndType 17 18), (0, u "com/example/entry_by_measure/entrybymeasure/service/TokenBucket$Shape"), (0, u "<init>"), (0, u "(JJJ)V"), (0, .methodref 20 21), (0, .class_ 22), (0, .nameAndType 17 23), (0, u "java/lang/Object"), (0, u "()V"), (0, .fieldref 14 25), (0, .nameAndType 5 26), (0, u "J"), (0, .fieldref 14 28), (0, .nameAndType 29 26), (0, u "perToken"), (0, .fieldref 14 31), (0, .nameAndType 32 26), (0, u "refillParts"), (0, .fieldref 14 34), (0, .nameAndType 35 26), (0, u "fullParts"), (0, .class_ 37), (0, u "com/example/entry_by_measure/entrybymeasure/service/Divisor"), (0, .methodref 36 39), (0, .nameAndType 17 40), (0, u "(J)V"), (0, .fieldref 14 42), (0, .nameAndType 43 44), (0, u "token"), (0, u "Lcom/example/entry_by_measure/entrybymeasure/service/Divisor;"), (0, .fieldref 14 46), (0, .nameAndType 9 44), (0, .methodref 36 48), (0, .nameAndType 49 50), (0, u "divideUp"), (0, u "(J)J"), (0, .fieldref 14 52), (0, .nameAndType 53 26), (0, u "oneTakenFullInMillis"), (0, .methodref 55 56), (0, .class_ 57), (0, .nameAndType 58 59), (0, u "com/example/entry_by_measure/entrybymeasure/model/Decision"), (0, u "allowed"), (0, u "(JJ)Lcom/example/entry_by_measure/entrybymeasure/model/Decision;"), (0, .fieldref 14 61), (0, .nameAndType 62 63), (0, u "oneTaken"), (0, u "Lcom/example/entry_by_measure/entrybymeasure/model/Decision;"), (17, .long 9223372036854775807), (7, .class_ 90), (0, u "com/example/entry_by_measure/entrybymeasure/service/TokenBucket"), (9, u "(Lcom/example/entry_by_measure/entrybymeasure/model/BurstRateLimit;)V"), (7, u "holds"), (0, u "(J)Z")] 7

def k3c0 : Code := { maxStack := 7, maxLocals := 2, code := prog_55_method_1_code, exceptionTable := #[], attributes := #[] }
def k3m0 : Method := { name := "<init>", desc := "(Lcom/example/entry_by_measure/entrybymeasure/model/BurstRateLimit;)V", sig := { parameters := [(.object "com/example/entry_by_measure/entrybymeasure/model/BurstRateLimit")], returnType := none }, accessFlags := 0, code := some k3c0 }
def k3c1 : Code := { maxStack := 5, maxLocals := 7, code := prog_55_method_2_code, exceptionTable := #[], attributes := #[] }
def k3m1 : Method := { name := "<init>", desc := "(JJJ)V", sig := { parameters := [.long, .long, .long], returnType := none }, accessFlags := 2, code := some k3c1 }
def k3c2 : Code := { maxStack := 6, maxLocals := 3, code := prog_55_method_6_code, exceptionTable := #[], attributes := #[] }
def k3m2 : Method := { name := "holds", desc := "(J)Z", sig := { parameters := [.long], returnType := some .boolean }, accessFlags := 0, code := some k3c2 }
/-- com/example/entry_by_measure/entrybymeasure/service/TokenBucket$Shape -/
def k3 : Class := { plain "com/example/entry_by_measure/entrybymeasure/service/TokenBucket$Shape" (some 0) with
  accessFlags := 32
  interfaces := #[]
  cf := some (fileOf pool3 14 #[.nestHost 89] #[{ accessFlags := 0, nameIndex := 17, descriptorIndex := 100, attributes := #[] }, { accessFlags := 2, nameIndex := 17, descriptorIndex := 18, attributes := #[] }, { accessFlags := 0, nameIndex := 108, descriptorIndex := 109, attributes := #[] }] 32 20 #[] #[{ accessFlags := 18, nameIndex := 5, descriptorIndex := 26, attributes := #[] }, { accessFlags := 18, nameIndex := 29, descriptorIndex := 26, attributes := #[] }, { accessFlags := 18, nameIndex := 32, descriptorIndex := 26, attributes := #[] }, { accessFlags := 18, nameIndex := 35, descriptorIndex := 26, attributes := #[] }, { accessFlags := 18, nameIndex := 43, descriptorIndex := 44, attributes := #[] }, { accessFlags := 18, nameIndex := 9, descriptorIndex := 44, attributes := #[] }, { accessFlags := 18, nameIndex := 53, descriptorIndex := 26, attributes := #[] }, { accessFlags := 18, nameIndex := 62, descriptorIndex := 63, attributes := #[] }])
  fields := #[{ name := "capacity", type := .long, accessFlags := 18, slot := 0, constantValue := 0 }, { name := "perToken", type := .long, accessFlags := 18, slot := 1, constantValue := 0 }, { name := "refillParts", type := .long, accessFlags := 18, slot := 2, constantValue := 0 }, { name := "fullParts", type := .long, accessFlags := 18, slot := 3, constantValue := 0 }, { name := "token", type := (.object "com/example/entry_by_measure/entrybymeasure/service/Divisor"), accessFlags := 18, slot := 4, constantValue := 0 }, { name := "refill", type := (.object "com/example/entry_by_measure/entrybymeasure/service/Divisor"), accessFlags := 18, slot := 5, constantValue := 0 }, { name := "oneTakenFullInMillis", type := .long, accessFlags := 18, slot := 6, constantValue := 0 }, { name := "oneTaken", type := (.object "com/example/entry_by_measure/entrybymeasure/model/Decision"), accessFlags := 18, slot := 7, constantValue := 0 }]
  methods := #[k3m0, k3m1, k3m2]
  instanceTypes := #[.long, .long, .long, .long, (.object "com/example/entry_by_measure/entrybymeasure/service/Divisor"), (.object "com/example/entry_by_measure/entrybymeasure/service/Divisor"), .long, (.object "com/example/entry_by_measure/entrybymeasure/model/Decision")]
  staticTypes := #[]
  resolved := Array.replicate 117 none
  statics := none }

def pool4 : Array CpInfo := pool [(1, .class_ 2), (0, u "com/example/entry_by_measure/entrybymeasure/model/Limit"), (0, .class_ 4), (0, u "java/lang/Object")] 13

/-- com/example/entry_by_measure/entrybymeasure/model/Limit -/
def k4 : Class := { plain "com/example/entry_by_measure/entrybymeasure/model/Limit" (some 0) with
  accessFlags := 1537
  interfaces := #[]
  cf := some (fileOf pool4 1 #[] #[] 1537 3 #[] #[])
  fields := #[]
  methods := #[]
  instanceTypes := #[]
  staticTypes := #[]
  resolved := Array.replicate 18 none
  statics := none }

def pool5 : Array CpInfo := pool [(1, .methodref 2 3), (0, .class_ 4), (0, .nameAndType 5 6), (0, u "java/lang/Object"), (0, u "<init>"), (0, u "()V"), (0, .string 8), (0, u "capacity"), (0, .string 10), (0, u "token"), (0, .methodref 12 13), (0, .class_ 14), (0, .nameAndType 15 16), (0, u "com/example/entry_by_measure/entrybymeasure/util/Bounds"), (0, u "atLeastOne"), (0, u "(Ljava/lang/String;JLjava/lang/String;)J"), (0, .fieldref 18 19), (0, .class_ 20), (0, .nameAndType 8 21), (0, u "com/example/entry_by_measure/entrybymeasure/model/BurstRateLimit"), (0, u "J"), (0, .string 23), (0, u "refill"), (0, .fieldref 18 25), (0, .nameAndType 23 21), (0, .string 27), (0, u "period"), (0, .string 29), (0, u "ms"), (0, .fieldref 18 31), (0, .nameAndType 32 21), (0, u "periodMillis"), (2, .long 9223372036854775807), (10, .class_ 47), (0, u "com/example/entry_by_measure/entrybymeasure/model/Limit"), (0, u "(JJJ)V"), (3, u "()J")] 18

def k5c0 : Code := { maxStack := 6, maxLocals := 7, code := prog_13_method_1_code, exceptionTable := #[], attributes := #[] }
def k5m0 : Method := { name := "<init>", desc := "(JJJ)V", sig := { parameters := [.long, .long, .long], returnType := none }, accessFlags := 1, code := some k5c0 }
def k5c1 : Code := { maxStack := 2, maxLocals := 1, code := prog_13_method_2_code, exceptionTable := #[], attributes := #[] }
def k5m1 : Method := { name := "capacity", desc := "()J", sig := { parameters := [], returnType := some .long }, accessFlags := 1, code := some k5c1 }
def k5c2 : Code := { maxStack := 2, maxLocals := 1, code := prog_13_method_3_code, exceptionTable := #[], attributes := #[] }
def k5m2 : Method := { name := "refill", desc := "()J", sig := { parameters := [], returnType := some .long }, accessFlags := 1, code := some k5c2 }
def k5c3 : Code := { maxStack := 2, maxLocals := 1, code := prog_13_method_4_code, exceptionTable := #[], attributes := #[] }
def k5m3 : Method := { name := "periodMillis", desc := "()J", sig := { parameters := [], returnType := some .long }, accessFlags := 1, code := some k5c3 }
/-- com/example/entry_by_measure/entrybymeasure/model/BurstRateLimit -/
def k5 : Class := { plain "com/example/entry_by_measure/entrybymeasure/model/BurstRateLimit" (some 0) with
  accessFlags := 49
  interfaces := #[4]
  cf := some (fileOf pool5 18 #[] #[{ accessFlags := 1, nameIndex := 5, descriptorIndex := 48, attributes := #[] }, { accessFlags := 1, nameIndex := 8, descriptorIndex := 52, attributes := #[] }, { accessFlags := 1, nameIndex := 23, descriptorIndex := 52, attributes := #[] }, { accessFlags := 1, nameIndex := 32, descriptorIndex := 52, attributes := #[] }] 49 2 #[46] #[{ accessFlags := 18, nameIndex := 8, descriptorIndex := 21, attributes := #[] }, { accessFlags := 18, nameIndex := 23, descriptorIndex := 21, attributes := #[] }, { accessFlags := 18, nameIndex := 32, descriptorIndex := 21, attributes := #[] }])
  fields := #[{ name := "capacity", type := .long, accessFlags := 18, slot := 0, constantValue := 0 }, { name := "refill", type := .long, accessFlags := 18, slot := 1, constantValue := 0 }, { name := "periodMillis", type := .long, accessFlags := 18, slot := 2, constantValue := 0 }]
  methods := #[k5m0, k5m1, k5m2, k5m3]
  instanceTypes := #[.long, .long, .long]
  staticTypes := #[]
  resolved := Array.replicate 71 none
  statics := none }

def pool6 : Array CpInfo := pool [(1, .class_ 2), (0, u "java/io/Serializable"), (0, .class_ 4), (0, u "java/lang/Object")] 2

/-- java/io/Serializable -/
def k6 : Class := { plain "java/io/Serializable" (some 0) with
  accessFlags := 1537
  interfaces := #[]
  cf := some (fileOf pool6 1 #[] #[] 1537 3 #[] #[])
  fields := #[]
  methods := #[]
  instanceTypes := #[]
  staticTypes := #[]
  resolved := Array.replicate 7 none
  statics := none }

def pool7 : Array CpInfo := pool [(1, .class_ 2), (0, u "java/lang/Comparable"), (0, .class_ 4), (0, u "java/lang/Object")] 7

/-- java/lang/Comparable -/
def k7 : Class := { plain "java/lang/Comparable" (some 0) with
  accessFlags := 1537
  interfaces := #[]
  cf := some (fileOf pool7 1 #[] #[] 1537 3 #[] #[])
  fields := #[]
  methods := #[]
  instanceTypes := #[]
  staticTypes := #[]
  resolved := Array.replicate 12 none
  statics := none }

def pool8 : Array CpInfo := pool [(2, .class_ 4), (1, u "java/lang/CharSequence"), (42, .class_ 48), (0, u "java/lang/CharSequence$1CodePointIterator"), (10, .class_ 60), (0, u "java/lang/CharSequence$1CharIterator"), (5, .class_ 67), (0, u "java/lang/Object")] 63

/-- java/lang/CharSequence -/
def k8 : Class := { plain "java/lang/CharSequence" (some 0) with
  accessFlags := 1537
  interfaces := #[]
  cf := some (fileOf pool8 2 #[.nestMembers #[47, 59]] #[] 1537 66 #[] #[])
  fields := #[]
  methods := #[]
  instanceTypes := #[]
  staticTypes := #[]
  resolved := Array.replicate 131 none
  statics := none }

def pool9 : Array CpInfo := pool [(1, .class_ 2), (0, u "java/lang/constant/Constable"), (0, .class_ 4), (0, u "java/lang/Object")] 6

/-- java/lang/constant/Constable -/
def k9 : Class := { plain "java/lang/constant/Constable" (some 0) with
  accessFlags := 1537
  interfaces := #[]
  cf := some (fileOf pool9 1 #[] #[] 1537 3 #[] #[])
  fields := #[]
  methods := #[]
  instanceTypes := #[]
  staticTypes := #[]
  resolved := Array.replicate 11 none
  statics := none }

def pool10 : Array CpInfo := pool [(1, .class_ 2), (0, u "java/lang/constant/ConstantDesc"), (0, .class_ 4), (0, u "java/lang/Object")] 32

/-- java/lang/constant/ConstantDesc -/
def k10 : Class := { plain "java/lang/constant/ConstantDesc" (some 0) with
  accessFlags := 1537
  interfaces := #[]
  cf := some (fileOf pool10 1 #[] #[] 1537 3 #[] #[])
  fields := #[]
  methods := #[]
  instanceTypes := #[]
  staticTypes := #[]
  resolved := Array.replicate 37 none
  statics := none }

def pool11 : Array CpInfo := pool [(2, .class_ 4), (1, u "java/lang/Object"), (0, u "<init>"), (0, u "()V"), (3, .class_ 12), (1, u "java/lang/String"), (0, u "value"), (0, u "[B"), (2, u "coder"), (0, u "B"), (2, u "hash"), (0, u "I"), (2, u "hashIsZero"), (0, u "Z"), (13, u "COMPACT_STRINGS"), (534, .class_ 576), (0, u "java/lang/CharSequence"), (22, u "CASE_INSENSITIVE_ORDER"), (0, u "Ljava/util/Comparator;"), (500, u "serialPersistentFields"), (0, u "[Ljava/io/ObjectStreamField;"), (0, .class_ 1104), (0, u "java/lang/String$CaseInsensitiveComparator"), (1, .class_ 1107), (0, u "java/io/Serializable"), (0, .class_ 1109), (0, u "java/lang/Comparable"), (0, .class_ 1111), (0, u "java/lang/constant/Constable"), (0, .class_ 1113), (0, u "java/lang/constant/ConstantDesc"), (2, u "serialVersionUID"), (0, u "J"), (3, u "REPL"), (0, u "C"), (2, u "LATIN1"), (1, u "UTF16")] 323

def k11m0 : Method := { name := "<init>", desc := "()V", sig := { parameters := [], returnType := none }, accessFlags := 1, code := none }
/-- java/lang/String -/
def k11 : Class := { plain "java/lang/String" (some 0) with
  accessFlags := 49
  interfaces := #[6, 7, 8, 9, 10]
  cf := some (fileOf pool11 10 #[.nestMembers #[1103]] #[{ accessFlags := 1, nameIndex := 5, descriptorIndex := 6, attributes := #[] }] 49 2 #[1106, 1108, 575, 1110, 1112] #[{ accessFlags := 18, nameIndex := 13, descriptorIndex := 14, attributes := #[] }, { accessFlags := 18, nameIndex := 17, descriptorIndex := 18, attributes := #[] }, { accessFlags := 2, nameIndex := 21, descriptorIndex := 22, attributes := #[] }, { accessFlags := 2, nameIndex := 25, descriptorIndex := 26, attributes := #[] }, { accessFlags := 26, nameIndex := 1116, descriptorIndex := 1117, attributes := #[] }, { accessFlags := 24, nameIndex := 40, descriptorIndex := 26, attributes := #[] }, { accessFlags := 26, nameIndex := 1101, descriptorIndex := 1102, attributes := #[] }, { accessFlags := 26, nameIndex := 1121, descriptorIndex := 1122, attributes := #[] }, { accessFlags := 25, nameIndex := 599, descriptorIndex := 600, attributes := #[] }, { accessFlags := 24, nameIndex := 1125, descriptorIndex := 18, attributes := #[] }, { accessFlags := 24, nameIndex := 1127, descriptorIndex := 18, attributes := #[] }])
  fields := #[{ name := "value", type := (.array .byte), accessFlags := 18, slot := 0, constantValue := 0 }, { name := "coder", type := .byte, accessFlags := 18, slot := 1, constantValue := 0 }, { name := "hash", type := .int, accessFlags := 2, slot := 2, constantValue := 0 }, { name := "hashIsZero", type := .boolean, accessFlags := 2, slot := 3, constantValue := 0 }, { name := "serialVersionUID", type := .long, accessFlags := 26, slot := 0, constantValue := 0 }, { name := "COMPACT_STRINGS", type := .boolean, accessFlags := 24, slot := 1, constantValue := 0 }, { name := "serialPersistentFields", type := (.array (.object "java/io/ObjectStreamField")), accessFlags := 26, slot := 2, constantValue := 0 }, { name := "REPL", type := .char, accessFlags := 26, slot := 3, constantValue := 0 }, { name := "CASE_INSENSITIVE_ORDER", type := (.object "java/util/Comparator"), accessFlags := 25, slot := 4, constantValue := 0 }, { name := "LATIN1", type := .byte, accessFlags := 24, slot := 5, constantValue := 0 }, { name := "UTF16", type := .byte, accessFlags := 24, slot := 6, constantValue := 0 }]
  methods := #[k11m0]
  instanceTypes := #[(.array .byte), .byte, .int, .boolean]
  staticTypes := #[.long, .boolean, (.array (.object "java/io/ObjectStreamField")), .char, (.object "java/util/Comparator"), .byte, .byte]
  resolved := Array.replicate 1451 none
  statics := none }

def pool12 : Array CpInfo := pool [(2, .class_ 4), (1, u "java/lang/Object"), (0, u "<init>"), (0, u "()V"), (10, .class_ 18), (0, u "com/example/entry_by_measure/entrybymeasure/util/Bounds"), (2, u "atLeastOne"), (0, u "(Ljava/lang/String;JLjava/lang/String;)J")] 21

def k12m0 : Method := { name := "<init>", desc := "()V", sig := { parameters := [], returnType := none }, accessFlags := 2, code := none }
def k12c1 : Code := { maxStack := 6, maxLocals := 4, code := prog_58_method_2_code, exceptionTable := #[], attributes := #[] }
def k12m1 : Method := { name := "atLeastOne", desc := "(Ljava/lang/String;JLjava/lang/String;)J", sig := { parameters := [(.object "java/lang/String"), .long, (.object "java/lang/String")], returnType := some .long }, accessFlags := 9, code := some k12c1 }
/-- com/example/entry_by_measure/entrybymeasure/util/Bounds -/
def k12 : Class := { plain "com/example/entry_by_measure/entrybymeasure/util/Bounds" (some 0) with
  accessFlags := 33
  interfaces := #[]
  cf := some (fileOf pool12 17 #[] #[{ accessFlags := 2, nameIndex := 5, descriptorIndex := 6, attributes := #[] }, { accessFlags := 9, nameIndex := 21, descriptorIndex := 22, attributes := #[] }] 33 2 #[] #[])
  fields := #[]
  methods := #[k12m0, k12m1]
  instanceTypes := #[]
  staticTypes := #[]
  resolved := Array.replicate 44 none
  statics := none }

def pool13 : Array CpInfo := pool [(1, .methodref 2 3), (0, .class_ 4), (0, .nameAndType 5 6), (0, u "java/lang/Object"), (0, u "<init>"), (0, u "()V"), (0, .methodref 8 9), (0, .class_ 10), (0, .nameAndType 11 12), (0, u "java/lang/Long"), (0, u "numberOfLeadingZeros"), (0, u "(J)I"), (0, .fieldref 14 15), (0, .class_ 16), (0, .nameAndType 17 18), (0, u "com/example/entry_by_measure/entrybymeasure/service/Divisor"), (0, u "divisor"), (0, u "J"), (0, .methodref 20 21), (0, .class_ 22), (0, .nameAndType 23 24), (0, u "java/lang/Math"), (0, u "max"), (0, u "(II)I"), (0, .fieldref 14 26), (0, .nameAndType 27 28), (0, u "shift"), (0, u "I"), (0, .fieldref 30 31), (0, .class_ 32), (0, .nameAndType 33 34), (0, u "java/math/BigInteger"), (0, u "ONE"), (0, u "Ljava/math/BigInteger;"), (0, .methodref 30 36), (0, .nameAndType 37 38), (0, u "shiftLeft"), (0, u "(I)Ljava/math/BigInteger;"), (0, .methodref 30 40), (0, .nameAndType 41 42), (0, u "valueOf"), (0, u "(J)Ljava/math/BigInteger;"), (0, .methodref 30 44), (0, .nameAndType 45 46), (0, u "add"), (0, u "(Ljava/math/BigInteger;)Ljava/math/BigInteger;"), (0, .methodref 30 48), (0, .nameAndType 49 46), (0, u "divide"), (0, .methodref 30 51), (0, .nameAndType 52 53), (0, u "longValue"), (0, u "()J"), (0, .fieldref 14 55), (0, .nameAndType 56 18), (0, u "multiplier"), (0, .methodref 20 58), (0, .nameAndType 59 60), (0, u "multiplyHigh"), (0, u "(JJ)J"), (0, .methodref 14 62), (0, .nameAndType 49 63), (0, u "(J)J"), (0, u "(J)V"), (3, u "divideUp")] 2

def k13c0 : Code := { maxStack := 6, maxLocals := 4, code := prog_44_method_1_code, exceptionTable := #[], attributes := #[] }
def k13m0 : Method := { name := "<init>", desc := "(J)V", sig := { parameters := [.long], returnType := none }, accessFlags := 0, code := some k13c0 }
def k13c1 : Code := { maxStack := 6, maxLocals := 5, code := prog_44_method_2_code, exceptionTable := #[], attributes := #[] }
def k13m1 : Method := { name := "divide", desc := "(J)J", sig := { parameters := [.long], returnType := some .long }, accessFlags := 0, code := some k13c1 }
def k13c2 : Code := { maxStack := 4, maxLocals := 5, code := prog_44_method_3_code, exceptionTable := #[], attributes := #[] }
def k13m2 : Method := { name := "divideUp", desc := "(J)J", sig := { parameters := [.long], returnType := some .long }, accessFlags := 0, code := some k13c2 }
/-- com/example/entry_by_measure/entrybymeasure/service/Divisor -/
def k13 : Class := { plain "com/example/entry_by_measure/entrybymeasure/service/Divisor" (some 0) with
  accessFlags := 32
  interfaces := #[]
  cf := some (fileOf pool13 14 #[] #[{ accessFlags := 0, nameIndex := 5, descriptorIndex := 64, attributes := #[] }, { accessFlags := 0, nameIndex := 49, descriptorIndex := 63, attributes := #[] }, { accessFlags := 0, nameIndex := 68, descriptorIndex := 63, attributes := #[] }] 32 2 #[] #[{ accessFlags := 18, nameIndex := 17, descriptorIndex := 18, attributes := #[] }, { accessFlags := 18, nameIndex := 56, descriptorIndex := 18, attributes := #[] }, { accessFlags := 18, nameIndex := 27, descriptorIndex := 28, attributes := #[] }])
  fields := #[{ name := "divisor", type := .long, accessFlags := 18, slot := 0, constantValue := 0 }, { name := "multiplier", type := .long, accessFlags := 18, slot := 1, constantValue := 0 }, { name := "shift", type := .int, accessFlags := 18, slot := 2, constantValue := 0 }]
  methods := #[k13m0, k13m1, k13m2]
  instanceTypes := #[.long, .long, .int]
  staticTypes := #[]
  resolved := Array.replicate 71 none
  statics := none }

def pool14 : Array CpInfo := pool [(1, .methodref 2 3), (0, .class_ 4), (0, .nameAndType 5 6), (0, u "java/lang/Object"), (0, u "<init>"), (0, u "()V"), (1, .class_ 10), (1, u "java/lang/Number"), (2, .class_ 14), (0, u "java/io/Serializable"), (0, u "serialVersionUID"), (0, u "J")] 20

def k14c0 : Code := { maxStack := 1, maxLocals := 1, code := jdk_18_method_1_code, exceptionTable := #[], attributes := #[] }
def k14m0 : Method := { name := "<init>", desc := "()V", sig := { parameters := [], returnType := none }, accessFlags := 1, code := some k14c0 }
/-- java/lang/Number -/
def k14 : Class := { plain "java/lang/Number" (some 0) with
  accessFlags := 1057
  interfaces := #[6]
  cf := some (fileOf pool14 8 #[] #[{ accessFlags := 1, nameIndex := 5, descriptorIndex := 6, attributes := #[] }] 1057 2 #[13] #[{ accessFlags := 26, nameIndex := 15, descriptorIndex := 16, attributes := #[] }])
  fields := #[{ name := "serialVersionUID", type := .long, accessFlags := 26, slot := 0, constantValue := 0 }]
  methods := #[k14m0]
  instanceTypes := #[]
  staticTypes := #[.long]
  resolved := Array.replicate 37 none
  statics := none }

def pool15 : Array CpInfo := pool [(1, .class_ 2), (0, u "java/lang/Long"), (15, .class_ 20), (1, u "java/lang/Integer"), (79, u "numberOfLeadingZeros"), (0, u "(J)I"), (133, .class_ 237), (1, u "java/lang/Long$LongCache"), (33, .class_ 272), (0, u "java/lang/Number"), (2, u "value"), (0, u "J"), (31, .methodref 18 309), (0, .nameAndType 100 310), (0, u "(I)I"), (50, u "TYPE"), (0, u "Ljava/lang/Class;"), (0, .class_ 364), (0, u "java/lang/Comparable"), (0, .class_ 366), (0, u "java/lang/constant/Constable"), (0, .class_ 368), (0, u "java/lang/constant/ConstantDesc"), (0, u "MIN_VALUE"), (1, u "MAX_VALUE"), (4, u "SIZE"), (0, u "I"), (1, u "BYTES"), (1, u "serialVersionUID")] 142

def k15c0 : Code := { maxStack := 3, maxLocals := 3, code := jdk_35_method_48_code, exceptionTable := #[], attributes := #[] }
def k15m0 : Method := { name := "numberOfLeadingZeros", desc := "(J)I", sig := { parameters := [.long], returnType := some .int }, accessFlags := 9, code := some k15c0 }
/-- java/lang/Long -/
def k15 : Class := { plain "java/lang/Long" (some 14) with
  accessFlags := 49
  interfaces := #[7, 9, 10]
  cf := some (fileOf pool15 1 #[.nestMembers #[235]] #[{ accessFlags := 9, nameIndex := 100, descriptorIndex := 101, attributes := #[] }] 49 271 #[363, 365, 367] #[{ accessFlags := 25, nameIndex := 369, descriptorIndex := 276, attributes := #[] }, { accessFlags := 25, nameIndex := 371, descriptorIndex := 276, attributes := #[] }, { accessFlags := 25, nameIndex := 361, descriptorIndex := 362, attributes := #[] }, { accessFlags := 18, nameIndex := 275, descriptorIndex := 276, attributes := #[] }, { accessFlags := 25, nameIndex := 376, descriptorIndex := 377, attributes := #[] }, { accessFlags := 25, nameIndex := 379, descriptorIndex := 377, attributes := #[] }, { accessFlags := 26, nameIndex := 381, descriptorIndex := 276, attributes := #[] }])
  fields := #[{ name := "MIN_VALUE", type := .long, accessFlags := 25, slot := 0, constantValue := 0 }, { name := "MAX_VALUE", type := .long, accessFlags := 25, slot := 1, constantValue := 0 }, { name := "TYPE", type := (.object "java/lang/Class"), accessFlags := 25, slot := 2, constantValue := 0 }, { name := "value", type := .long, accessFlags := 18, slot := 0, constantValue := 0 }, { name := "SIZE", type := .int, accessFlags := 25, slot := 3, constantValue := 0 }, { name := "BYTES", type := .int, accessFlags := 25, slot := 4, constantValue := 0 }, { name := "serialVersionUID", type := .long, accessFlags := 26, slot := 5, constantValue := 0 }]
  methods := #[k15m0]
  instanceTypes := #[.long]
  staticTypes := #[.long, .long, (.object "java/lang/Class"), .int, .int, .long]
  resolved := Array.replicate 524 none
  statics := none }

def pool16 : Array CpInfo := pool [(1, .class_ 2), (0, u "java/lang/Integer"), (16, u "digits"), (0, u "[C"), (32, u "numberOfLeadingZeros"), (0, u "(I)I"), (30, u "DigitOnes"), (0, u "[B"), (2, u "DigitTens"), (99, .class_ 190), (0, u "java/lang/Integer$IntegerCache"), (3, u "I"), (8, .class_ 204), (0, u "java/lang/Number"), (2, u "value"), (56, .integer 65536), (37, u "TYPE"), (0, u "Ljava/lang/Class;"), (0, .class_ 305), (0, u "java/lang/Comparable"), (0, .class_ 307), (0, u "java/lang/constant/Constable"), (0, .class_ 309), (0, u "java/lang/constant/ConstantDesc"), (0, u "MIN_VALUE"), (1, u "MAX_VALUE"), (3, u "SIZE"), (1, u "BYTES"), (1, u "serialVersionUID"), (0, u "J")] 131

def k16c0 : Code := { maxStack := 3, maxLocals := 2, code := jdk_33_method_47_code, exceptionTable := #[], attributes := #[] }
def k16m0 : Method := { name := "numberOfLeadingZeros", desc := "(I)I", sig := { parameters := [.int], returnType := some .int }, accessFlags := 9, code := some k16c0 }
/-- java/lang/Integer -/
def k16 : Class := { plain "java/lang/Integer" (some 14) with
  accessFlags := 49
  interfaces := #[7, 9, 10]
  cf := some (fileOf pool16 1 #[.nestMembers #[189]] #[{ accessFlags := 9, nameIndex := 53, descriptorIndex := 54, attributes := #[] }] 49 203 #[304, 306, 308] #[{ accessFlags := 25, nameIndex := 310, descriptorIndex := 194, attributes := #[] }, { accessFlags := 25, nameIndex := 312, descriptorIndex := 194, attributes := #[] }, { accessFlags := 25, nameIndex := 302, descriptorIndex := 303, attributes := #[] }, { accessFlags := 24, nameIndex := 19, descriptorIndex := 20, attributes := #[] }, { accessFlags := 24, nameIndex := 89, descriptorIndex := 86, attributes := #[] }, { accessFlags := 24, nameIndex := 85, descriptorIndex := 86, attributes := #[] }, { accessFlags := 18, nameIndex := 207, descriptorIndex := 194, attributes := #[] }, { accessFlags := 25, nameIndex := 316, descriptorIndex := 194, attributes := #[] }, { accessFlags := 25, nameIndex := 318, descriptorIndex := 194, attributes := #[] }, { accessFlags := 26, nameIndex := 320, descriptorIndex := 321, attributes := #[] }])
  fields := #[{ name := "MIN_VALUE", type := .int, accessFlags := 25, slot := 0, constantValue := 0 }, { name := "MAX_VALUE", type := .int, accessFlags := 25, slot := 1, constantValue := 0 }, { name := "TYPE", type := (.object "java/lang/Class"), accessFlags := 25, slot := 2, constantValue := 0 }, { name := "digits", type := (.array .char), accessFlags := 24, slot := 3, constantValue := 0 }, { name := "DigitTens", type := (.array .byte), accessFlags := 24, slot := 4, constantValue := 0 }, { name := "DigitOnes", type := (.array .byte), accessFlags := 24, slot := 5, constantValue := 0 }, { name := "value", type := .int, accessFlags := 18, slot := 0, constantValue := 0 }, { name := "SIZE", type := .int, accessFlags := 25, slot := 6, constantValue := 0 }, { name := "BYTES", type := .int, accessFlags := 25, slot := 7, constantValue := 0 }, { name := "serialVersionUID", type := .long, accessFlags := 26, slot := 8, constantValue := 0 }]
  methods := #[k16m0]
  instanceTypes := #[.int]
  staticTypes := #[.int, .int, (.object "java/lang/Class"), (.array .char), (.array .byte), (.array .byte), .int, .int, .long]
  resolved := Array.replicate 453 none
  statics := none }

def pool17 : Array CpInfo := pool [(3, .methodref 4 5), (0, .class_ 6), (0, .nameAndType 7 8), (0, u "java/lang/Number"), (0, u "<init>"), (0, u "()V"), (8, .class_ 19), (1, u "java/util/Objects"), (1, u "(III)I"), (0, .fieldref 23 24), (0, .class_ 25), (0, .nameAndType 26 27), (0, u "java/math/BigInteger"), (0, u "ZERO"), (0, u "Ljava/math/BigInteger;"), (0, .fieldref 23 29), (0, .nameAndType 30 31), (0, u "mag"), (0, u "[I"), (0, .fieldref 23 33), (0, .nameAndType 34 35), (0, u "signum"), (0, u "I"), (7, .integer 67108864), (38, u "(I)I"), (12, u "bitsPerDigit"), (0, u "[J"), (9, u "digitsPerInt"), (12, u "intRadix"), (10, .long 4294967295), (44, .methodref 23 176), (0, .nameAndType 7 177), (0, u "([II)V"), (2, u "SMALL_PRIME_PRODUCT"), (3, u "(Ljava/math/BigInteger;)Ljava/math/BigInteger;"), (2, u "longValue"), (0, u "()J"), (30, u "(I)Ljava/math/BigInteger;"), (17, u "valueOf"), (0, u "(J)Ljava/math/BigInteger;"), (2, u "add"), (18, u "ONE"), (6, u "TWO"), (43, u "$assertionsDisabled"), (0, u "Z"), (32, .long 16), (1, .fieldref 23 348), (0, .nameAndType 349 350), (0, u "posConst"), (0, u "[Ljava/math/BigInteger;"), (4, u "negConst"), (0, .methodref 23 357), (0, .nameAndType 7 358), (0, u "(J)V"), (1, .nameAndType 7 361), (0, u "([I)V"), (0, .methodref 23 363), (0, .nameAndType 241 364), (0, u "([I[I)[I"), (23, .methodref 389 390), (0, .class_ 391), (0, .nameAndType 392 393), (0, u "java/lang/System"), (0, u "arraycopy"), (0, u "(Ljava/lang/Object;ILjava/lang/Object;II)V"), (35, .methodref 23 430), (0, .nameAndType 431 432), (0, u "shiftLeft"), (0, u "([II)[I"), (39, .class_ 474), (1, u "java/math/BigInteger$RecursiveOp"), (60, .methodref 23 536), (0, .nameAndType 537 184), (0, u "divideKnuth"), (3, .class_ 542), (0, u "java/math/MutableBigInteger"), (0, .methodref 541 5), (0, .methodref 541 360), (0, .methodref 541 546), (0, .nameAndType 537 547), (0, u "(Ljava/math/MutableBigInteger;Ljava/math/MutableBigInteger;Z)Ljava/math/MutableBigInteger;"), (0, .methodref 541 549), (0, .nameAndType 550 219), (0, u "toBigInteger"), (30, u "NEGATIVE_ONE"), (29, .methodref 17 612), (0, .nameAndType 613 21), (0, u "checkFromToIndex"), (3, u "([I[IIII)V"), (0, .methodref 23 619), (0, .nameAndType 620 617), (0, u "shiftLeftImplWorker"), (21, u "divide"), (30, u "bnExpModThreshTable"), (62, .methodref 23 737), (0, .nameAndType 738 82), (0, u "getInt"), (7, u "lowestSetBitPlusTwo"), (2, u "bitLengthPlusOne"), (2, u "bitCountPlusOne"), (6, u "LOG_TWO"), (0, u "D"), (2, u "logCache"), (0, u "[D"), (13, u "NUM_ZEROS"), (2, u "ZEROS"), (0, u "Ljava/lang/String;"), (9, u "longRadix"), (5, u "digitsPerLong"), (22, u "powerCache"), (0, u "[[Ljava/math/BigInteger;"), (45, u "firstNonzeroIntNumPlusTwo"), (38, .class_ 909), (1, u "java/math/BigInteger$UnsafeHolder"), (141, u "TEN"), (106, u "serialPersistentFields"), (0, u "[Ljava/io/ObjectStreamField;"), (0, .class_ 1161), (0, u "java/lang/Comparable"), (0, u "LONG_MASK"), (0, u "J"), (1, u "MAX_MAG_LENGTH"), (0, u "PRIME_SEARCH_BIT_LENGTH_LIMIT"), (1, u "KARATSUBA_THRESHOLD"), (1, u "TOOM_COOK_THRESHOLD"), (1, u "KARATSUBA_SQUARE_THRESHOLD"), (1, u "TOOM_COOK_SQUARE_THRESHOLD"), (1, u "BURNIKEL_ZIEGLER_THRESHOLD"), (0, u "BURNIKEL_ZIEGLER_OFFSET"), (1, u "SCHOENHAGE_BASE_CONVERSION_THRESHOLD"), (1, u "MULTIPLY_SQUARE_THRESHOLD"), (0, u "MONTGOMERY_INTRINSIC_THRESHOLD"), (1, u "SMALL_PRIME_THRESHOLD"), (1, u "DEFAULT_PRIME_CERTAINTY"), (1, u "MAX_CONSTANT"), (3, u "serialVersionUID"), (338, .class_ 1532), (0, u "java/math/BigInteger$RecursiveOp$RecursiveSquare"), (0, .class_ 1534), (0, u "java/math/BigInteger$RecursiveOp$RecursiveMultiply")] 7

def k17c0 : Code := { maxStack := 2, maxLocals := 3, code := jdk_2097_method_25_code, exceptionTable := #[], attributes := #[] }
def k17m0 : Method := { name := "<init>", desc := "([II)V", sig := { parameters := [(.array .int), .int], returnType := none }, accessFlags := 0, code := some k17c0 }
def k17c1 : Code := { maxStack := 4, maxLocals := 2, code := jdk_2097_method_29_code, exceptionTable := #[], attributes := #[] }
def k17m1 : Method := { name := "valueOf", desc := "(J)Ljava/math/BigInteger;", sig := { parameters := [.long], returnType := some (.object "java/math/BigInteger") }, accessFlags := 9, code := some k17c1 }
def k17c2 : Code := { maxStack := 4, maxLocals := 4, code := jdk_2097_method_30_code, exceptionTable := #[], attributes := #[] }
def k17m2 : Method := { name := "<init>", desc := "(J)V", sig := { parameters := [.long], returnType := none }, accessFlags := 2, code := some k17c2 }
def k17c3 : Code := { maxStack := 5, maxLocals := 4, code := jdk_2097_method_32_code, exceptionTable := #[], attributes := #[] }
def k17m3 : Method := { name := "add", desc := "(Ljava/math/BigInteger;)Ljava/math/BigInteger;", sig := { parameters := [(.object "java/math/BigInteger")], returnType := some (.object "java/math/BigInteger") }, accessFlags := 1, code := some k17c3 }
def k17c4 : Code := { maxStack := 6, maxLocals := 9, code := jdk_2097_method_35_code, exceptionTable := #[], attributes := #[] }
def k17m4 : Method := { name := "add", desc := "([I[I)[I", sig := { parameters := [(.array .int), (.array .int)], returnType := some (.array .int) }, accessFlags := 10, code := some k17c4 }
def k17c5 : Code := { maxStack := 2, maxLocals := 2, code := jdk_2097_method_61_code, exceptionTable := #[], attributes := #[] }
def k17m5 : Method := { name := "divide", desc := "(Ljava/math/BigInteger;)Ljava/math/BigInteger;", sig := { parameters := [(.object "java/math/BigInteger")], returnType := some (.object "java/math/BigInteger") }, accessFlags := 1, code := some k17c5 }
def k17c6 : Code := { maxStack := 4, maxLocals := 5, code := jdk_2097_method_62_code, exceptionTable := #[], attributes := #[] }
def k17m6 : Method := { name := "divideKnuth", desc := "(Ljava/math/BigInteger;)Ljava/math/BigInteger;", sig := { parameters := [(.object "java/math/BigInteger")], returnType := some (.object "java/math/BigInteger") }, accessFlags := 2, code := some k17c6 }
def k17c7 : Code := { maxStack := 4, maxLocals := 2, code := jdk_2097_method_101_code, exceptionTable := #[], attributes := #[] }
def k17m7 : Method := { name := "shiftLeft", desc := "(I)Ljava/math/BigInteger;", sig := { parameters := [.int], returnType := some (.object "java/math/BigInteger") }, accessFlags := 1, code := some k17c7 }
def k17c8 : Code := { maxStack := 5, maxLocals := 10, code := jdk_2097_method_102_code, exceptionTable := #[], attributes := #[] }
def k17m8 : Method := { name := "shiftLeft", desc := "([II)[I", sig := { parameters := [(.array .int), .int], returnType := some (.array .int) }, accessFlags := 10, code := some k17c8 }
def k17c9 : Code := { maxStack := 5, maxLocals := 7, code := jdk_2097_method_103_code, exceptionTable := #[], attributes := #[] }
def k17m9 : Method := { name := "shiftLeftImplWorker", desc := "([I[IIII)V", sig := { parameters := [(.array .int), (.array .int), .int, .int, .int], returnType := none }, accessFlags := 10, code := some k17c9 }
def k17c10 : Code := { maxStack := 6, maxLocals := 4, code := jdk_2097_method_136_code, exceptionTable := #[], attributes := #[] }
def k17m10 : Method := { name := "longValue", desc := "()J", sig := { parameters := [], returnType := some .long }, accessFlags := 1, code := some k17c10 }
def k17c11 : Code := { maxStack := 3, maxLocals := 3, code := jdk_2097_method_148_code, exceptionTable := #[], attributes := #[] }
def k17m11 : Method := { name := "getInt", desc := "(I)I", sig := { parameters := [.int], returnType := some .int }, accessFlags := 2, code := some k17c11 }
/-- java/math/BigInteger -/
def k17 : Class := { plain "java/math/BigInteger" (some 14) with
  accessFlags := 33
  interfaces := #[7]
  cf := some (fileOf pool17 23 #[.nestMembers #[907, 472, 1531, 1533]] #[{ accessFlags := 0, nameIndex := 7, descriptorIndex := 177, attributes := #[] }, { accessFlags := 9, nameIndex := 237, descriptorIndex := 238, attributes := #[] }, { accessFlags := 2, nameIndex := 7, descriptorIndex := 358, attributes := #[] }, { accessFlags := 1, nameIndex := 241, descriptorIndex := 184, attributes := #[] }, { accessFlags := 10, nameIndex := 241, descriptorIndex := 364, attributes := #[] }, { accessFlags := 1, nameIndex := 642, descriptorIndex := 184, attributes := #[] }, { accessFlags := 2, nameIndex := 537, descriptorIndex := 184, attributes := #[] }, { accessFlags := 1, nameIndex := 431, descriptorIndex := 219, attributes := #[] }, { accessFlags := 10, nameIndex := 431, descriptorIndex := 432, attributes := #[] }, { accessFlags := 10, nameIndex := 620, descriptorIndex := 617, attributes := #[] }, { accessFlags := 1, nameIndex := 187, descriptorIndex := 188, attributes := #[] }, { accessFlags := 2, nameIndex := 738, descriptorIndex := 82, attributes := #[] }] 33 4 #[1160] #[{ accessFlags := 16, nameIndex := 34, descriptorIndex := 35, attributes := #[] }, { accessFlags := 16, nameIndex := 30, descriptorIndex := 31, attributes := #[] }, { accessFlags := 2, nameIndex := 752, descriptorIndex := 35, attributes := #[] }, { accessFlags := 2, nameIndex := 749, descriptorIndex := 35, attributes := #[] }, { accessFlags := 2, nameIndex := 746, descriptorIndex := 35, attributes := #[] }, { accessFlags := 2, nameIndex := 868, descriptorIndex := 35, attributes := #[] }, { accessFlags := 24, nameIndex := 1162, descriptorIndex := 1163, attributes := #[] }, { accessFlags := 26, nameIndex := 1165, descriptorIndex := 35, attributes := #[] }, { accessFlags := 26, nameIndex := 1166, descriptorIndex := 35, attributes := #[] }, { accessFlags := 26, nameIndex := 1168, descriptorIndex := 35, attributes := #[] }, { accessFlags := 26, nameIndex := 1170, descriptorIndex := 35, attributes := #[] }, { accessFlags := 26, nameIndex := 1172, descriptorIndex := 35, attributes := #[] }, { accessFlags := 26, nameIndex := 1174, descriptorIndex := 35, attributes := #[] }, { accessFlags := 24, nameIndex := 1176, descriptorIndex := 35, attributes := #[] }, { accessFlags := 24, nameIndex := 1177, descriptorIndex := 35, attributes := #[] }, { accessFlags := 26, nameIndex := 1179, descriptorIndex := 35, attributes := #[] }, { accessFlags := 26, nameIndex := 1181, descriptorIndex := 35, attributes := #[] }, { accessFlags := 26, nameIndex := 1182, descriptorIndex := 35, attributes := #[] }, { accessFlags := 10, nameIndex := 95, descriptorIndex := 96, attributes := #[] }, { accessFlags := 26, nameIndex := 1184, descriptorIndex := 35, attributes := #[] }, { accessFlags := 26, nameIndex := 1186, descriptorIndex := 35, attributes := #[] }, { accessFlags := 26, nameIndex := 180, descriptorIndex := 27, attributes := #[] }, { accessFlags := 26, nameIndex := 1188, descriptorIndex := 35, attributes := #[] }, { accessFlags := 26, nameIndex := 349, descriptorIndex := 350, attributes := #[] }, { accessFlags := 26, nameIndex := 355, descriptorIndex := 350, attributes := #[] }, { accessFlags := 74, nameIndex := 821, descriptorIndex := 822, attributes := #[] }, { accessFlags := 26, nameIndex := 763, descriptorIndex := 764, attributes := #[] }, { accessFlags := 26, nameIndex := 759, descriptorIndex := 760, attributes := #[] }, { accessFlags := 25, nameIndex := 26, descriptorIndex := 27, attributes := #[] }, { accessFlags := 25, nameIndex := 260, descriptorIndex := 27, attributes := #[] }, { accessFlags := 25, nameIndex := 267, descriptorIndex := 27, attributes := #[] }, { accessFlags := 26, nameIndex := 581, descriptorIndex := 27, attributes := #[] }, { accessFlags := 25, nameIndex := 1051, descriptorIndex := 27, attributes := #[] }, { accessFlags := 8, nameIndex := 673, descriptorIndex := 31, attributes := #[] }, { accessFlags := 10, nameIndex := 778, descriptorIndex := 35, attributes := #[] }, { accessFlags := 26, nameIndex := 781, descriptorIndex := 782, attributes := #[] }, { accessFlags := 10, nameIndex := 798, descriptorIndex := 31, attributes := #[] }, { accessFlags := 10, nameIndex := 792, descriptorIndex := 350, attributes := #[] }, { accessFlags := 10, nameIndex := 106, descriptorIndex := 31, attributes := #[] }, { accessFlags := 10, nameIndex := 119, descriptorIndex := 31, attributes := #[] }, { accessFlags := 26, nameIndex := 1192, descriptorIndex := 1163, attributes := #[] }, { accessFlags := 26, nameIndex := 1158, descriptorIndex := 1159, attributes := #[] }, { accessFlags := 4120, nameIndex := 311, descriptorIndex := 312, attributes := #[] }])
  fields := #[{ name := "signum", type := .int, accessFlags := 16, slot := 0, constantValue := 0 }, { name := "mag", type := (.array .int), accessFlags := 16, slot := 1, constantValue := 0 }, { name := "bitCountPlusOne", type := .int, accessFlags := 2, slot := 2, constantValue := 0 }, { name := "bitLengthPlusOne", type := .int, accessFlags := 2, slot := 3, constantValue := 0 }, { name := "lowestSetBitPlusTwo", type := .int, accessFlags := 2, slot := 4, constantValue := 0 }, { name := "firstNonzeroIntNumPlusTwo", type := .int, accessFlags := 2, slot := 5, constantValue := 0 }, { name := "LONG_MASK", type := .long, accessFlags := 24, slot := 0, constantValue := 0 }, { name := "MAX_MAG_LENGTH", type := .int, accessFlags := 26, slot := 1, constantValue := 0 }, { name := "PRIME_SEARCH_BIT_LENGTH_LIMIT", type := .int, accessFlags := 26, slot := 2, constantValue := 0 }, { name := "KARATSUBA_THRESHOLD", type := .int, accessFlags := 26, slot := 3, constantValue := 0 }, { name := "TOOM_COOK_THRESHOLD", type := .int, accessFlags := 26, slot := 4, constantValue := 0 }, { name := "KARATSUBA_SQUARE_THRESHOLD", type := .int, accessFlags := 26, slot := 5, constantValue := 0 }, { name := "TOOM_COOK_SQUARE_THRESHOLD", type := .int, accessFlags := 26, slot := 6, constantValue := 0 }, { name := "BURNIKEL_ZIEGLER_THRESHOLD", type := .int, accessFlags := 24, slot := 7, constantValue := 0 }, { name := "BURNIKEL_ZIEGLER_OFFSET", type := .int, accessFlags := 24, slot := 8, constantValue := 0 }, { name := "SCHOENHAGE_BASE_CONVERSION_THRESHOLD", type := .int, accessFlags := 26, slot := 9, constantValue := 0 }, { name := "MULTIPLY_SQUARE_THRESHOLD", type := .int, accessFlags := 26, slot := 10, constantValue := 0 }, { name := "MONTGOMERY_INTRINSIC_THRESHOLD", type := .int, accessFlags := 26, slot := 11, constantValue := 0 }, { name := "bitsPerDigit", type := (.array .long), accessFlags := 10, slot := 12, constantValue := 0 }, { name := "SMALL_PRIME_THRESHOLD", type := .int, accessFlags := 26, slot := 13, constantValue := 0 }, { name := "DEFAULT_PRIME_CERTAINTY", type := .int, accessFlags := 26, slot := 14, constantValue := 0 }, { name := "SMALL_PRIME_PRODUCT", type := (.object "java/math/BigInteger"), accessFlags := 26, slot := 15, constantValue := 0 }, { name := "MAX_CONSTANT", type := .int, accessFlags := 26, slot := 16, constantValue := 0 }, { name := "posConst", type := (.array (.object "java/math/BigInteger")), accessFlags := 26, slot := 17, constantValue := 0 }, { name := "negConst", type := (.array (.object "java/math/BigInteger")), accessFlags := 26, slot := 18, constantValue := 0 }, { name := "powerCache", type := (.array (.array (.object "java/math/BigInteger"))), accessFlags := 74, slot := 19, constantValue := 0 }, { name := "logCache", type := (.array .double), accessFlags := 26, slot := 20, constantValue := 0 }, { name := "LOG_TWO", type := .double, accessFlags := 26, slot := 21, constantValue := 0 }, { name := "ZERO", type := (.object "java/math/BigInteger"), accessFlags := 25, slot := 22, constantValue := 0 }, { name := "ONE", type := (.object "java/math/BigInteger"), accessFlags := 25, slot := 23, constantValue := 0 }, { name := "TWO", type := (.object "java/math/BigInteger"), accessFlags := 25, slot := 24, constantValue := 0 }, { name := "NEGATIVE_ONE", type := (.object "java/math/BigInteger"), accessFlags := 26, slot := 25, constantValue := 0 }, { name := "TEN", type := (.object "java/math/BigInteger"), accessFlags := 25, slot := 26, constantValue := 0 }, { name := "bnExpModThreshTable", type := (.array .int), accessFlags := 8, slot := 27, constantValue := 0 }, { name := "NUM_ZEROS", type := .int, accessFlags := 10, slot := 28, constantValue := 0 }, { name := "ZEROS", type := (.object "java/lang/String"), accessFlags := 26, slot := 29, constantValue := 0 }, { name := "digitsPerLong", type := (.array .int), accessFlags := 10, slot := 30, constantValue := 0 }, { name := "longRadix", type := (.array (.object "java/math/BigInteger")), accessFlags := 10, slot := 31, constantValue := 0 }, { name := "digitsPerInt", type := (.array .int), accessFlags := 10, slot := 32, constantValue := 0 }, { name := "intRadix", type := (.array .int), accessFlags := 10, slot := 33, constantValue := 0 }, { name := "serialVersionUID", type := .long, accessFlags := 26, slot := 34, constantValue := 0 }, { name := "serialPersistentFields", type := (.array (.object "java/io/ObjectStreamField")), accessFlags := 26, slot := 35, constantValue := 0 }, { name := "$assertionsDisabled", type := .boolean, accessFlags := 4120, slot := 36, constantValue := 0 }]
  methods := #[k17m0, k17m1, k17m2, k17m3, k17m4, k17m5, k17m6, k17m7, k17m8, k17m9, k17m10, k17m11]
  instanceTypes := #[.int, (.array .int), .int, .int, .int, .int]
  staticTypes := #[.long, .int, .int, .int, .int, .int, .int, .int, .int, .int, .int, .int, (.array .long), .int, .int, (.object "java/math/BigInteger"), .int, (.array (.object "java/math/BigInteger")), (.array (.object "java/math/BigInteger")), (.array (.array (.object "java/math/BigInteger"))), (.array .double), .double, (.object "java/math/BigInteger"), (.object "java/math/BigInteger"), (.object "java/math/BigInteger"), (.object "java/math/BigInteger"), (.object "java/math/BigInteger"), (.array .int), .int, (.object "java/lang/String"), (.array .int), (.array (.object "java/math/BigInteger")), (.array .int), (.array .int), .long, (.array (.object "java/io/ObjectStreamField")), .boolean]
  resolved := Array.replicate 1542 none
  statics := some 0 }

def pool18 : Array CpInfo := pool [(2, .class_ 4), (1, u "java/lang/Object"), (0, u "<init>"), (0, u "()V"), (1, .class_ 10), (1, u "java/lang/System"), (0, u "allowSecurityManager"), (0, u "I"), (16, u "cons"), (0, u "Ljava/io/Console;"), (77, .class_ 110), (1, u "java/lang/System$CallersHolder"), (43, u "initialErrStream"), (0, u "Ljava/io/PrintStream;"), (19, u "security"), (0, u "Ljava/lang/SecurityManager;"), (31, .class_ 209), (0, u "java/lang/System$1"), (7, u "props"), (0, u "Ljava/util/Properties;"), (2, u "lineSeparator"), (0, u "Ljava/lang/String;"), (96, .class_ 321), (1, u "java/lang/System$LoggerFinder"), (5, .class_ 328), (0, u "java/lang/System$Logger"), (67, u "err"), (2, u "out"), (91, u "notSupportedJnuEncoding"), (15, u "in"), (17, u "initialIn"), (0, u "Ljava/io/InputStream;"), (35, u "bootLayer"), (0, u "Ljava/lang/ModuleLayer;"), (99, .class_ 664), (0, u "java/lang/System$2"), (9, u "NEVER"), (2, u "MAYBE"), (49, u "arraycopy"), (0, u "(Ljava/lang/Object;ILjava/lang/Object;II)V"), (72, .class_ 802), (0, u "java/lang/System$Logger$Level")] 31

def k18m0 : Method := { name := "<init>", desc := "()V", sig := { parameters := [], returnType := none }, accessFlags := 2, code := none }
def k18m1 : Method := { name := "arraycopy", desc := "(Ljava/lang/Object;ILjava/lang/Object;II)V", sig := { parameters := [(.object "java/lang/Object"), .int, (.object "java/lang/Object"), .int, .int], returnType := none }, accessFlags := 265, code := none }
/-- java/lang/System -/
def k18 : Class := { plain "java/lang/System" (some 0) with
  accessFlags := 49
  interfaces := #[]
  cf := some (fileOf pool18 8 #[.nestMembers #[319, 327, 801, 108, 663, 208]] #[{ accessFlags := 2, nameIndex := 5, descriptorIndex := 6, attributes := #[] }, { accessFlags := 265, nameIndex := 727, descriptorIndex := 728, attributes := #[] }] 49 2 #[] #[{ accessFlags := 25, nameIndex := 507, descriptorIndex := 526, attributes := #[] }, { accessFlags := 25, nameIndex := 399, descriptorIndex := 155, attributes := #[] }, { accessFlags := 25, nameIndex := 396, descriptorIndex := 155, attributes := #[] }, { accessFlags := 10, nameIndex := 525, descriptorIndex := 526, attributes := #[] }, { accessFlags := 26, nameIndex := 674, descriptorIndex := 12, attributes := #[] }, { accessFlags := 26, nameIndex := 677, descriptorIndex := 12, attributes := #[] }, { accessFlags := 10, nameIndex := 11, descriptorIndex := 12, attributes := #[] }, { accessFlags := 74, nameIndex := 175, descriptorIndex := 176, attributes := #[] }, { accessFlags := 10, nameIndex := 491, descriptorIndex := 222, attributes := #[] }, { accessFlags := 74, nameIndex := 29, descriptorIndex := 30, attributes := #[] }, { accessFlags := 74, nameIndex := 154, descriptorIndex := 155, attributes := #[] }, { accessFlags := 10, nameIndex := 217, descriptorIndex := 218, attributes := #[] }, { accessFlags := 10, nameIndex := 221, descriptorIndex := 222, attributes := #[] }, { accessFlags := 8, nameIndex := 562, descriptorIndex := 563, attributes := #[] }])
  fields := #[{ name := "in", type := (.object "java/io/InputStream"), accessFlags := 25, slot := 0, constantValue := 0 }, { name := "out", type := (.object "java/io/PrintStream"), accessFlags := 25, slot := 1, constantValue := 0 }, { name := "err", type := (.object "java/io/PrintStream"), accessFlags := 25, slot := 2, constantValue := 0 }, { name := "initialIn", type := (.object "java/io/InputStream"), accessFlags := 10, slot := 3, constantValue := 0 }, { name := "NEVER", type := .int, accessFlags := 26, slot := 4, constantValue := 0 }, { name := "MAYBE", type := .int, accessFlags := 26, slot := 5, constantValue := 0 }, { name := "allowSecurityManager", type := .int, accessFlags := 10, slot := 6, constantValue := 0 }, { name := "security", type := (.object "java/lang/SecurityManager"), accessFlags := 74, slot := 7, constantValue := 0 }, { name := "notSupportedJnuEncoding", type := (.object "java/lang/String"), accessFlags := 10, slot := 8, constantValue := 0 }, { name := "cons", type := (.object "java/io/Console"), accessFlags := 74, slot := 9, constantValue := 0 }, { name := "initialErrStream", type := (.object "java/io/PrintStream"), accessFlags := 74, slot := 10, constantValue := 0 }, { name := "props", type := (.object "java/util/Properties"), accessFlags := 10, slot := 11, constantValue := 0 }, { name := "lineSeparator", type := (.object "java/lang/String"), accessFlags := 10, slot := 12, constantValue := 0 }, { name := "bootLayer", type := (.object "java/lang/ModuleLayer"), accessFlags := 8, slot := 13, constantValue := 0 }]
  methods := #[k18m0, k18m1]
  instanceTypes := #[]
  staticTypes := #[(.object "java/io/InputStream"), (.object "java/io/PrintStream"), (.object "java/io/PrintStream"), (.object "java/io/InputStream"), .int, .int, .int, (.object "java/lang/SecurityManager"), (.object "java/lang/String"), (.object "java/io/Console"), (.object "java/io/PrintStream"), (.object "java/util/Properties"), (.object "java/lang/String"), (.object "java/lang/ModuleLayer")]
  resolved := Array.replicate 834 none
  statics := none }

def pool19 : Array CpInfo := pool [(1, .class_ 2), (0, u "java/math/BigInteger"), (2, .methodref 6 7), (0, .class_ 8), (0, .nameAndType 9 10), (0, u "java/lang/Object"), (0, u "<init>"), (0, u "()V"), (0, .fieldref 12 13), (0, .class_ 14), (0, .nameAndType 15 16), (0, u "java/math/MutableBigInteger"), (0, u "offset"), (0, u "I"), (0, .fieldref 12 18), (0, .nameAndType 19 20), (0, u "value"), (0, u "[I"), (0, .fieldref 12 22), (0, .nameAndType 23 16), (0, u "intLen"), (4, .class_ 30), (1, u "java/util/Arrays"), (2, .methodref 28 34), (0, .nameAndType 35 36), (0, u "copyOfRange"), (0, u "([III)[I"), (0, .methodref 28 38), (0, .nameAndType 39 40), (0, u "fill"), (0, u "([II)V"), (2, u "$assertionsDisabled"), (0, u "Z"), (7, .long 4294967295), (5, .methodref 12 59), (0, .nameAndType 60 61), (0, u "getMagnitudeArray"), (0, u "()[I"), (0, .methodref 1 63), (0, .nameAndType 9 40), (0, .methodref 12 65), (0, .nameAndType 66 10), (0, u "normalize"), (6, u "toBigInteger"), (0, u "(I)Ljava/math/BigInteger;"), (4, .long 9223372036854775808), (8, .integer 2147483648), (1, .class_ 92), (1, u "java/lang/Integer"), (1, u "(I)I"), (47, .methodref 12 143), (0, .nameAndType 144 145), (0, u "compare"), (0, u "(Ljava/math/MutableBigInteger;)I"), (3, .methodref 12 150), (0, .nameAndType 151 10), (0, u "clear"), (0, .methodref 90 153), (0, .nameAndType 154 94), (0, u "numberOfLeadingZeros"), (0, .methodref 12 156), (0, .nameAndType 157 158), (0, u "divWord"), (0, u "(JI)J"), (3, u "(Ljava/math/MutableBigInteger;Ljava/math/MutableBigInteger;Z)Ljava/math/MutableBigInteger;"), (2, u "divideKnuth"), (12, .methodref 12 179), (0, .nameAndType 180 181), (0, u "divideOneWord"), (0, u "(ILjava/math/MutableBigInteger;)I"), (8, .methodref 12 191), (0, .nameAndType 192 162), (0, u "divideMagnitude"), (64, u "ONE"), (0, u "Ljava/math/MutableBigInteger;"), (0, .methodref 12 260), (0, .nameAndType 9 261), (0, u "([I)V"), (7, .methodref 12 270), (0, .nameAndType 271 272), (0, u "copyAndShift"), (0, u "([III[III)V"), (0, .methodref 12 274), (0, .nameAndType 275 276), (0, u "unsignedLongCompare"), (0, u "(JJ)Z"), (0, .methodref 12 278), (0, .nameAndType 279 280), (0, u "mulsub"), (0, u "([I[IIII)I"), (4, .methodref 12 286), (0, .nameAndType 287 280), (0, u "mulsubBorrow"), (123, u "KNUTH_POW2_THRESH_LEN"), (2, u "KNUTH_POW2_THRESH_ZEROS")] 175

def k19c0 : Code := { maxStack := 2, maxLocals := 1, code := jdk_2101_method_1_code, exceptionTable := #[], attributes := #[] }
def k19m0 : Method := { name := "<init>", desc := "()V", sig := { parameters := [], returnType := none }, accessFlags := 0, code := some k19c0 }
def k19c1 : Code := { maxStack := 2, maxLocals := 2, code := jdk_2101_method_3_code, exceptionTable := #[], attributes := #[] }
def k19m1 : Method := { name := "<init>", desc := "([I)V", sig := { parameters := [(.array .int)], returnType := none }, accessFlags := 0, code := some k19c1 }
def k19c2 : Code := { maxStack := 4, maxLocals := 2, code := jdk_2101_method_7_code, exceptionTable := #[], attributes := #[] }
def k19m2 : Method := { name := "getMagnitudeArray", desc := "()[I", sig := { parameters := [], returnType := some (.array .int) }, accessFlags := 2, code := some k19c2 }
def k19c3 : Code := { maxStack := 4, maxLocals := 2, code := jdk_2101_method_9_code, exceptionTable := #[], attributes := #[] }
def k19m3 : Method := { name := "toBigInteger", desc := "(I)Ljava/math/BigInteger;", sig := { parameters := [.int], returnType := some (.object "java/math/BigInteger") }, accessFlags := 0, code := some k19c3 }
def k19c4 : Code := { maxStack := 4, maxLocals := 3, code := jdk_2101_method_13_code, exceptionTable := #[], attributes := #[] }
def k19m4 : Method := { name := "clear", desc := "()V", sig := { parameters := [], returnType := none }, accessFlags := 0, code := some k19c4 }
def k19c5 : Code := { maxStack := 3, maxLocals := 8, code := jdk_2101_method_15_code, exceptionTable := #[], attributes := #[] }
def k19m5 : Method := { name := "compare", desc := "(Ljava/math/MutableBigInteger;)I", sig := { parameters := [(.object "java/math/MutableBigInteger")], returnType := some .int }, accessFlags := 16, code := some k19c5 }
def k19c6 : Code := { maxStack := 3, maxLocals := 4, code := jdk_2101_method_21_code, exceptionTable := #[], attributes := #[] }
def k19m6 : Method := { name := "normalize", desc := "()V", sig := { parameters := [], returnType := none }, accessFlags := 16, code := some k19c6 }
def k19c7 : Code := { maxStack := 8, maxLocals := 15, code := jdk_2101_method_39_code, exceptionTable := #[], attributes := #[] }
def k19m7 : Method := { name := "mulsub", desc := "([I[IIII)I", sig := { parameters := [(.array .int), (.array .int), .int, .int, .int], returnType := some .int }, accessFlags := 2, code := some k19c7 }
def k19c8 : Code := { maxStack := 8, maxLocals := 15, code := jdk_2101_method_40_code, exceptionTable := #[], attributes := #[] }
def k19m8 : Method := { name := "mulsubBorrow", desc := "([I[IIII)I", sig := { parameters := [(.array .int), (.array .int), .int, .int, .int], returnType := some .int }, accessFlags := 2, code := some k19c8 }
def k19c9 : Code := { maxStack := 6, maxLocals := 15, code := jdk_2101_method_53_code, exceptionTable := #[], attributes := #[] }
def k19m9 : Method := { name := "divideOneWord", desc := "(ILjava/math/MutableBigInteger;)I", sig := { parameters := [.int, (.object "java/math/MutableBigInteger")], returnType := some .int }, accessFlags := 0, code := some k19c9 }
def k19c10 : Code := { maxStack := 5, maxLocals := 8, code := jdk_2101_method_57_code, exceptionTable := #[], attributes := #[] }
def k19m10 : Method := { name := "divideKnuth", desc := "(Ljava/math/MutableBigInteger;Ljava/math/MutableBigInteger;Z)Ljava/math/MutableBigInteger;", sig := { parameters := [(.object "java/math/MutableBigInteger"), (.object "java/math/MutableBigInteger"), .boolean], returnType := some (.object "java/math/MutableBigInteger") }, accessFlags := 0, code := some k19c10 }
def k19c11 : Code := { maxStack := 5, maxLocals := 10, code := jdk_2101_method_64_code, exceptionTable := #[], attributes := #[] }
def k19m11 : Method := { name := "copyAndShift", desc := "([III[III)V", sig := { parameters := [(.array .int), .int, .int, (.array .int), .int, .int], returnType := none }, accessFlags := 10, code := some k19c11 }
def k19c12 : Code := { maxStack := 7, maxLocals := 28, code := jdk_2101_method_65_code, exceptionTable := #[], attributes := #[] }
def k19m12 : Method := { name := "divideMagnitude", desc := "(Ljava/math/MutableBigInteger;Ljava/math/MutableBigInteger;Z)Ljava/math/MutableBigInteger;", sig := { parameters := [(.object "java/math/MutableBigInteger"), (.object "java/math/MutableBigInteger"), .boolean], returnType := some (.object "java/math/MutableBigInteger") }, accessFlags := 2, code := some k19c12 }
def k19c13 : Code := { maxStack := 6, maxLocals := 5, code := jdk_2101_method_69_code, exceptionTable := #[], attributes := #[] }
def k19m13 : Method := { name := "unsignedLongCompare", desc := "(JJ)Z", sig := { parameters := [.long, .long], returnType := some .boolean }, accessFlags := 2, code := some k19c13 }
def k19c14 : Code := { maxStack := 6, maxLocals := 9, code := jdk_2101_method_70_code, exceptionTable := #[], attributes := #[] }
def k19m14 : Method := { name := "divWord", desc := "(JI)J", sig := { parameters := [.long, .int], returnType := some .long }, accessFlags := 8, code := some k19c14 }
/-- java/math/MutableBigInteger -/
def k19 : Class := { plain "java/math/MutableBigInteger" (some 0) with
  accessFlags := 32
  interfaces := #[]
  cf := some (fileOf pool19 12 #[] #[{ accessFlags := 0, nameIndex := 9, descriptorIndex := 10, attributes := #[] }, { accessFlags := 0, nameIndex := 9, descriptorIndex := 261, attributes := #[] }, { accessFlags := 2, nameIndex := 60, descriptorIndex := 61, attributes := #[] }, { accessFlags := 0, nameIndex := 73, descriptorIndex := 74, attributes := #[] }, { accessFlags := 0, nameIndex := 151, descriptorIndex := 10, attributes := #[] }, { accessFlags := 16, nameIndex := 144, descriptorIndex := 145, attributes := #[] }, { accessFlags := 16, nameIndex := 66, descriptorIndex := 10, attributes := #[] }, { accessFlags := 2, nameIndex := 279, descriptorIndex := 280, attributes := #[] }, { accessFlags := 2, nameIndex := 287, descriptorIndex := 280, attributes := #[] }, { accessFlags := 0, nameIndex := 180, descriptorIndex := 181, attributes := #[] }, { accessFlags := 0, nameIndex := 165, descriptorIndex := 162, attributes := #[] }, { accessFlags := 10, nameIndex := 271, descriptorIndex := 272, attributes := #[] }, { accessFlags := 2, nameIndex := 192, descriptorIndex := 162, attributes := #[] }, { accessFlags := 2, nameIndex := 275, descriptorIndex := 276, attributes := #[] }, { accessFlags := 8, nameIndex := 157, descriptorIndex := 158, attributes := #[] }] 32 6 #[] #[{ accessFlags := 0, nameIndex := 19, descriptorIndex := 20, attributes := #[] }, { accessFlags := 0, nameIndex := 23, descriptorIndex := 16, attributes := #[] }, { accessFlags := 0, nameIndex := 15, descriptorIndex := 16, attributes := #[] }, { accessFlags := 24, nameIndex := 257, descriptorIndex := 258, attributes := #[] }, { accessFlags := 24, nameIndex := 411, descriptorIndex := 16, attributes := #[] }, { accessFlags := 24, nameIndex := 414, descriptorIndex := 16, attributes := #[] }, { accessFlags := 4120, nameIndex := 43, descriptorIndex := 44, attributes := #[] }])
  fields := #[{ name := "value", type := (.array .int), accessFlags := 0, slot := 0, constantValue := 0 }, { name := "intLen", type := .int, accessFlags := 0, slot := 1, constantValue := 0 }, { name := "offset", type := .int, accessFlags := 0, slot := 2, constantValue := 0 }, { name := "ONE", type := (.object "java/math/MutableBigInteger"), accessFlags := 24, slot := 0, constantValue := 0 }, { name := "KNUTH_POW2_THRESH_LEN", type := .int, accessFlags := 24, slot := 1, constantValue := 0 }, { name := "KNUTH_POW2_THRESH_ZEROS", type := .int, accessFlags := 24, slot := 2, constantValue := 0 }, { name := "$assertionsDisabled", type := .boolean, accessFlags := 4120, slot := 3, constantValue := 0 }]
  methods := #[k19m0, k19m1, k19m2, k19m3, k19m4, k19m5, k19m6, k19m7, k19m8, k19m9, k19m10, k19m11, k19m12, k19m13, k19m14]
  instanceTypes := #[(.array .int), .int, .int]
  staticTypes := #[(.object "java/math/MutableBigInteger"), .int, .int, .boolean]
  resolved := Array.replicate 590 none
  statics := none }

def pool20 : Array CpInfo := pool [(2, .class_ 4), (1, u "java/lang/Object"), (0, u "<init>"), (0, u "()V"), (7, .class_ 16), (1, u "java/util/Arrays"), (57, .class_ 76), (1, u "java/util/Arrays$NaturalOrder"), (36, .class_ 115), (1, u "java/util/Arrays$LegacyMergeSort"), (1, u "Z"), (21, u "copyOfRange"), (10, .methodref 151 152), (0, .class_ 153), (0, .nameAndType 154 155), (0, u "java/lang/System"), (0, u "arraycopy"), (0, u "(Ljava/lang/Object;ILjava/lang/Object;II)V"), (148, .methodref 305 306), (0, .class_ 307), (0, .nameAndType 308 309), (0, u "java/lang/Math"), (0, u "min"), (0, u "(II)I"), (33, .methodref 14 344), (0, .nameAndType 345 346), (0, u "checkLength"), (0, u "(II)V"), (4, .methodref 14 352), (0, .nameAndType 353 354), (0, u "copyOfRangeInt"), (0, u "([III)[I"), (20, .class_ 376), (0, u "java/util/Arrays$ArrayList"), (68, u "$assertionsDisabled"), (269, u "MIN_ARRAY_SORT_GRAN"), (0, u "I"), (2, u "INSERTIONSORT_THRESHOLD"), (120, u "fill"), (4, u "([II)V"), (129, .class_ 976), (0, u "java/util/Arrays$ArrayItr")] 52

def k20m0 : Method := { name := "<init>", desc := "()V", sig := { parameters := [], returnType := none }, accessFlags := 2, code := none }
def k20c1 : Code := { maxStack := 3, maxLocals := 4, code := jdk_65_method_103_code, exceptionTable := #[], attributes := #[] }
def k20m1 : Method := { name := "fill", desc := "([II)V", sig := { parameters := [(.array .int), .int], returnType := none }, accessFlags := 9, code := some k20c1 }
def k20c2 : Code := { maxStack := 4, maxLocals := 2, code := jdk_65_method_131_code, exceptionTable := #[], attributes := #[] }
def k20m2 : Method := { name := "checkLength", desc := "(II)V", sig := { parameters := [.int, .int], returnType := none }, accessFlags := 10, code := some k20c2 }
def k20c3 : Code := { maxStack := 3, maxLocals := 3, code := jdk_65_method_136_code, exceptionTable := #[], attributes := #[] }
def k20m3 : Method := { name := "copyOfRange", desc := "([III)[I", sig := { parameters := [(.array .int), .int, .int], returnType := some (.array .int) }, accessFlags := 9, code := some k20c3 }
def k20c4 : Code := { maxStack := 6, maxLocals := 5, code := jdk_65_method_137_code, exceptionTable := #[], attributes := #[] }
def k20m4 : Method := { name := "copyOfRangeInt", desc := "([III)[I", sig := { parameters := [(.array .int), .int, .int], returnType := some (.array .int) }, accessFlags := 10, code := some k20c4 }
/-- java/util/Arrays -/
def k20 : Class := { plain "java/util/Arrays" (some 0) with
  accessFlags := 49
  interfaces := #[]
  cf := some (fileOf pool20 14 #[.nestMembers #[975, 375, 113, 74]] #[{ accessFlags := 2, nameIndex := 5, descriptorIndex := 6, attributes := #[] }, { accessFlags := 9, nameIndex := 840, descriptorIndex := 845, attributes := #[] }, { accessFlags := 10, nameIndex := 345, descriptorIndex := 346, attributes := #[] }, { accessFlags := 9, nameIndex := 139, descriptorIndex := 354, attributes := #[] }, { accessFlags := 10, nameIndex := 353, descriptorIndex := 354, attributes := #[] }] 49 2 #[] #[{ accessFlags := 26, nameIndex := 715, descriptorIndex := 716, attributes := #[] }, { accessFlags := 26, nameIndex := 719, descriptorIndex := 716, attributes := #[] }, { accessFlags := 4120, nameIndex := 445, descriptorIndex := 117, attributes := #[] }])
  fields := #[{ name := "MIN_ARRAY_SORT_GRAN", type := .int, accessFlags := 26, slot := 0, constantValue := 0 }, { name := "INSERTIONSORT_THRESHOLD", type := .int, accessFlags := 26, slot := 1, constantValue := 0 }, { name := "$assertionsDisabled", type := .boolean, accessFlags := 4120, slot := 2, constantValue := 0 }]
  methods := #[k20m0, k20m1, k20m2, k20m3, k20m4]
  instanceTypes := #[]
  staticTypes := #[.int, .int, .boolean]
  resolved := Array.replicate 1029 none
  statics := none }

def pool21 : Array CpInfo := pool [(2, .class_ 4), (1, u "java/lang/Object"), (0, u "<init>"), (0, u "()V"), (35, .class_ 44), (1, u "java/util/Objects"), (61, .class_ 108), (1, u "jdk/internal/util/Preconditions"), (2, .methodref 106 112), (0, .nameAndType 113 114), (0, u "checkFromToIndex"), (0, u "(IIILjava/util/function/BiFunction;)I"), (60, u "(III)I")] 8

def k21m0 : Method := { name := "<init>", desc := "()V", sig := { parameters := [], returnType := none }, accessFlags := 2, code := none }
def k21c1 : Code := { maxStack := 4, maxLocals := 3, code := jdk_31_method_18_code, exceptionTable := #[], attributes := #[] }
def k21m1 : Method := { name := "checkFromToIndex", desc := "(III)I", sig := { parameters := [.int, .int, .int], returnType := some .int }, accessFlags := 9, code := some k21c1 }
/-- java/util/Objects -/
def k21 : Class := { plain "java/util/Objects" (some 0) with
  accessFlags := 49
  interfaces := #[]
  cf := some (fileOf pool21 42 #[] #[{ accessFlags := 2, nameIndex := 5, descriptorIndex := 6, attributes := #[] }, { accessFlags := 9, nameIndex := 113, descriptorIndex := 175, attributes := #[] }] 49 2 #[] #[])
  fields := #[]
  methods := #[k21m0, k21m1]
  instanceTypes := #[]
  staticTypes := #[]
  resolved := Array.replicate 184 none
  statics := none }

def pool22 : Array CpInfo := pool [(2, .class_ 4), (1, u "java/lang/Object"), (0, u "<init>"), (0, u "()V"), (17, .class_ 26), (1, u "jdk/internal/util/Preconditions"), (20, u "checkFromToIndex"), (7, .class_ 56), (0, u "jdk/internal/util/Preconditions$4"), (57, .class_ 115), (0, u "jdk/internal/util/Preconditions$1"), (7, u "SIOOBE_FORMATTER"), (0, u "Ljava/util/function/BiFunction;"), (0, .class_ 126), (0, u "jdk/internal/util/Preconditions$2"), (3, u "AIOOBE_FORMATTER"), (0, .class_ 132), (0, u "jdk/internal/util/Preconditions$3"), (3, u "IOOBE_FORMATTER"), (46, u "(IIILjava/util/function/BiFunction;)I")] 10

def k22m0 : Method := { name := "<init>", desc := "()V", sig := { parameters := [], returnType := none }, accessFlags := 1, code := none }
def k22c1 : Code := { maxStack := 4, maxLocals := 4, code := jdk_41_method_12_code, exceptionTable := #[], attributes := #[] }
def k22m1 : Method := { name := "checkFromToIndex", desc := "(IIILjava/util/function/BiFunction;)I", sig := { parameters := [.int, .int, .int, (.object "java/util/function/BiFunction")], returnType := some .int }, accessFlags := 9, code := some k22c1 }
/-- jdk/internal/util/Preconditions -/
def k22 : Class := { plain "jdk/internal/util/Preconditions" (some 0) with
  accessFlags := 33
  interfaces := #[]
  cf := some (fileOf pool22 24 #[.nestMembers #[55, 131, 125, 114]] #[{ accessFlags := 1, nameIndex := 5, descriptorIndex := 6, attributes := #[] }, { accessFlags := 9, nameIndex := 47, descriptorIndex := 183, attributes := #[] }] 33 2 #[] #[{ accessFlags := 25, nameIndex := 123, descriptorIndex := 124, attributes := #[] }, { accessFlags := 25, nameIndex := 130, descriptorIndex := 124, attributes := #[] }, { accessFlags := 25, nameIndex := 136, descriptorIndex := 124, attributes := #[] }])
  fields := #[{ name := "SIOOBE_FORMATTER", type := (.object "java/util/function/BiFunction"), accessFlags := 25, slot := 0, constantValue := 0 }, { name := "AIOOBE_FORMATTER", type := (.object "java/util/function/BiFunction"), accessFlags := 25, slot := 1, constantValue := 0 }, { name := "IOOBE_FORMATTER", type := (.object "java/util/function/BiFunction"), accessFlags := 25, slot := 2, constantValue := 0 }]
  methods := #[k22m0, k22m1]
  instanceTypes := #[]
  staticTypes := #[(.object "java/util/function/BiFunction"), (.object "java/util/function/BiFunction"), (.object "java/util/function/BiFunction")]
  resolved := Array.replicate 194 none
  statics := none }

def pool23 : Array CpInfo := pool [(1, .methodref 2 3), (0, .class_ 4), (0, .nameAndType 5 6), (0, u "java/lang/Object"), (0, u "<init>"), (0, u "()V"), (0, .fieldref 8 9), (0, .class_ 10), (0, .nameAndType 11 12), (0, u "com/example/entry_by_measure/entrybymeasure/model/Decision"), (0, u "allowed"), (0, u "Z"), (0, .fieldref 8 14), (0, .nameAndType 15 16), (0, u "remaining"), (0, u "J"), (0, .fieldref 8 18), (0, .nameAndType 19 16), (0, u "waitMillis"), (0, .fieldref 8 21), (0, .nameAndType 22 16), (0, u "resetMillis"), (0, .fieldref 8 24), (0, .nameAndType 25 26), (0, u "failure"), (0, u "Lcom/example/entry_by_measure/entrybymeasure/model/StoreFailure;"), (0, .methodref 8 28), (0, .nameAndType 5 29), (0, u "(ZJJJ)V"), (77, u "NEVER"), (1, u "FALLBACK_RETRY_AFTER_MILLIS"), (2, u "(JJ)Lcom/example/entry_by_measure/entrybymeasure/model/Decision;")] 45

def k23c0 : Code := { maxStack := 3, maxLocals := 8, code := prog_16_method_1_code, exceptionTable := #[], attributes := #[] }
def k23m0 : Method := { name := "<init>", desc := "(ZJJJ)V", sig := { parameters := [.boolean, .long, .long, .long], returnType := none }, accessFlags := 2, code := some k23c0 }
def k23c1 : Code := { maxStack := 9, maxLocals := 4, code := prog_16_method_3_code, exceptionTable := #[], attributes := #[] }
def k23m1 : Method := { name := "allowed", desc := "(JJ)Lcom/example/entry_by_measure/entrybymeasure/model/Decision;", sig := { parameters := [.long, .long], returnType := some (.object "com/example/entry_by_measure/entrybymeasure/model/Decision") }, accessFlags := 9, code := some k23c1 }
/-- com/example/entry_by_measure/entrybymeasure/model/Decision -/
def k23 : Class := { plain "com/example/entry_by_measure/entrybymeasure/model/Decision" (some 0) with
  accessFlags := 33
  interfaces := #[]
  cf := some (fileOf pool23 8 #[] #[{ accessFlags := 2, nameIndex := 5, descriptorIndex := 29, attributes := #[] }, { accessFlags := 9, nameIndex := 11, descriptorIndex := 112, attributes := #[] }] 33 2 #[] #[{ accessFlags := 26, nameIndex := 107, descriptorIndex := 16, attributes := #[] }, { accessFlags := 26, nameIndex := 109, descriptorIndex := 16, attributes := #[] }, { accessFlags := 18, nameIndex := 11, descriptorIndex := 12, attributes := #[] }, { accessFlags := 18, nameIndex := 15, descriptorIndex := 16, attributes := #[] }, { accessFlags := 18, nameIndex := 19, descriptorIndex := 16, attributes := #[] }, { accessFlags := 18, nameIndex := 22, descriptorIndex := 16, attributes := #[] }, { accessFlags := 18, nameIndex := 25, descriptorIndex := 26, attributes := #[] }])
  fields := #[{ name := "NEVER", type := .long, accessFlags := 26, slot := 0, constantValue := 0 }, { name := "FALLBACK_RETRY_AFTER_MILLIS", type := .long, accessFlags := 26, slot := 1, constantValue := 0 }, { name := "allowed", type := .boolean, accessFlags := 18, slot := 0, constantValue := 0 }, { name := "remaining", type := .long, accessFlags := 18, slot := 1, constantValue := 0 }, { name := "waitMillis", type := .long, accessFlags := 18, slot := 2, constantValue := 0 }, { name := "resetMillis", type := .long, accessFlags := 18, slot := 3, constantValue := 0 }, { name := "failure", type := (.object "com/example/entry_by_measure/entrybymeasure/model/StoreFailure"), accessFlags := 18, slot := 4, constantValue := 0 }]
  methods := #[k23m0, k23m1]
  instanceTypes := #[.boolean, .long, .long, .long, (.object "com/example/entry_by_measure/entrybymeasure/model/StoreFailure")]
  staticTypes := #[.long, .long]
  resolved := Array.replicate 158 none
  statics := none }

def pool24 : Array CpInfo := pool [(1, u "java/lang/Cloneable"), (0, .class_ 1), (0, u "java/lang/Object"), (0, .class_ 3)] 3

/-- java/lang/Cloneable -/
def k24 : Class := { plain "java/lang/Cloneable" (some 0) with
  accessFlags := 1537
  interfaces := #[]
  cf := some (fileOf pool24 2 #[] #[] 1537 4 #[] #[])
  fields := #[]
  methods := #[]
  instanceTypes := #[]
  staticTypes := #[]
  resolved := Array.replicate 8 none
  statics := none }

/-- the primitive byte -/
def k25 : Class := { plain "byte" none with kind := .primitive 'B', accessFlags := 0x411 }
/-- [B -/
def k26 : Class := { plain "[B" (some 0) with kind := .array 25 .byte, interfaces := #[24, 6], accessFlags := 1041 }

/-- the primitive int -/
def k27 : Class := { plain "int" none with kind := .primitive 'I', accessFlags := 0x411 }
/-- [I -/
def k28 : Class := { plain "[I" (some 0) with kind := .array 27 .int, interfaces := #[24, 6], accessFlags := 1041 }

/-- [Ljava/math/BigInteger; -/
def k29 : Class := { plain "[Ljava/math/BigInteger;" (some 0) with kind := .array 17 (.object "java/math/BigInteger"), interfaces := #[24, 6], accessFlags := 1041 }

def heap : Heap := #[{ cls := 17, slots := #[.long 0, .int 0, .int 0, .int 0, .int 0, .int 0, .int 0, .int 0, .int 0, .int 0, .int 0, .int 0, .null, .int 0, .int 0, .null, .int 0, .ref 1, .null, .null, .null, .double 0, .ref 18, .ref 2, .ref 3, .null, .ref 11, .null, .int 0, .null, .null, .null, .null, .null, .long 0, .null, .int 0], vm := .statics 17 },
  { cls := 29, slots := #[.null, .ref 2, .ref 3, .ref 4, .ref 5, .ref 6, .ref 7, .ref 8, .ref 9, .ref 10, .ref 11, .ref 12, .ref 13, .ref 14, .ref 15, .ref 16, .ref 17], vm := .none },
  { cls := 17, slots := #[.int 1, .ref 19, .int 0, .int 0, .int 0, .int 0], vm := .none },
  { cls := 17, slots := #[.int 1, .ref 20, .int 0, .int 0, .int 0, .int 0], vm := .none },
  { cls := 17, slots := #[.int 1, .ref 21, .int 0, .int 0, .int 0, .int 0], vm := .none },
  { cls := 17, slots := #[.int 1, .ref 22, .int 0, .int 0, .int 0, .int 0], vm := .none },
  { cls := 17, slots := #[.int 1, .ref 23, .int 0, .int 0, .int 0, .int 0], vm := .none },
  { cls := 17, slots := #[.int 1, .ref 24, .int 0, .int 0, .int 0, .int 0], vm := .none },
  { cls := 17, slots := #[.int 1, .ref 25, .int 0, .int 0, .int 0, .int 0], vm := .none },
  { cls := 17, slots := #[.int 1, .ref 26, .int 0, .int 0, .int 0, .int 0], vm := .none },
  { cls := 17, slots := #[.int 1, .ref 27, .int 0, .int 0, .int 0, .int 0], vm := .none },
  { cls := 17, slots := #[.int 1, .ref 28, .int 0, .int 0, .int 0, .int 0], vm := .none },
  { cls := 17, slots := #[.int 1, .ref 29, .int 0, .int 0, .int 0, .int 0], vm := .none },
  { cls := 17, slots := #[.int 1, .ref 30, .int 0, .int 0, .int 0, .int 0], vm := .none },
  { cls := 17, slots := #[.int 1, .ref 31, .int 0, .int 0, .int 0, .int 0], vm := .none },
  { cls := 17, slots := #[.int 1, .ref 32, .int 0, .int 0, .int 0, .int 0], vm := .none },
  { cls := 17, slots := #[.int 1, .ref 33, .int 0, .int 0, .int 0, .int 0], vm := .none },
  { cls := 17, slots := #[.int 1, .ref 34, .int 0, .int 0, .int 0, .int 0], vm := .none },
  { cls := 17, slots := #[.int 0, .ref 35, .int 0, .int 0, .int 0, .int 0], vm := .none },
  { cls := 28, slots := #[.int 1], vm := .none },
  { cls := 28, slots := #[.int 2], vm := .none },
  { cls := 28, slots := #[.int 3], vm := .none },
  { cls := 28, slots := #[.int 4], vm := .none },
  { cls := 28, slots := #[.int 5], vm := .none },
  { cls := 28, slots := #[.int 6], vm := .none },
  { cls := 28, slots := #[.int 7], vm := .none },
  { cls := 28, slots := #[.int 8], vm := .none },
  { cls := 28, slots := #[.int 9], vm := .none },
  { cls := 28, slots := #[.int 10], vm := .none },
  { cls := 28, slots := #[.int 11], vm := .none },
  { cls := 28, slots := #[.int 12], vm := .none },
  { cls := 28, slots := #[.int 13], vm := .none },
  { cls := 28, slots := #[.int 14], vm := .none },
  { cls := 28, slots := #[.int 15], vm := .none },
  { cls := 28, slots := #[.int 16], vm := .none },
  { cls := 28, slots := #[], vm := .none }]
def classes : Array Class := #[k0, k1, k2, k3, k4, k5, k6, k7, k8, k9, k10, k11, k12, k13, k14, k15, k16, k17, k18, k19, k20, k21, k22, k23, k24, k25, k26, k27, k28, k29]
def interned : List (Array UInt16 × Addr) := []
def slotsUsed : Nat := 172
def theMethod : MethodId := ⟨1, 1⟩
def args0 : Array Value := #[.long 4, .long 9, .long 1, .long 2, .int 3]
def aboutOver (below : List Frame) : State where
  vm := { classes := classes, interned := interned.toArray }
  heap := heap
  slotsUsed := slotsUsed
  threads := #[{ frames := .invoking theMethod args0 :: below }]
def below0 : List Frame := [.native { method := ⟨0, 0⟩, args := #[] }]
def about1 : State := aboutOver below0
def p0 : Program := .bare "" "" ""
def e0 : Env := launch0.env 0 0 0
theorem w_frames : about1.frames = Frame.invoking theMethod args0 :: below0 := rfl
set_option maxRecDepth 65536 in
theorem w_args : argsFit about1.vm theMethod args0 = true := by decide +kernel
set_option maxRecDepth 65536 in
theorem w_heap : heapFits about1 = true := by decide +kernel
set_option maxRecDepth 65536 in
theorem w_runnable : about1.curStatus? = some .runnable := by decide +kernel
set_option maxRecDepth 65536 in
theorem w_alone : about1.alone = true := by decide +kernel
set_option maxRecDepth 65536 in
theorem w_named : about1.methodNamed? x = some theMethod := by decide +kernel
set_option maxRecDepth 65536 in
theorem w_hears : about1.hears theMethod below0 = true := by decide +kernel
set_option maxRecDepth 65536 in
theorem w_ripe : about1.ripe theMethod args0 below0 = true := by decide +kernel
theorem w_running : about1.status = .running := rfl
set_option maxRecDepth 65536 in
theorem w_room : about1.hasRoom e0.platform room_1 = true :=
  launch0.hasRoom_least _ room_1 (by decide +kernel) (by decide +kernel) (by decide +kernel) (by decide +kernel) (by decide +kernel) (by decide +kernel)
theorem allAtoms_all (ts : List Jvm.Cond) (a : Array Jvm.Value) (st : Jvm.State) : (allAtoms ts).before a st = ts.all (fun c => c.before a st) := by
  induction ts with
  | nil => rfl
  | cons c t ih =>
    show (Jvm.Cond.and c (allAtoms t)).before a st = _
    rw [Jvm.Cond.before_and, ih, List.all_cons]
def words1 : List Jvm.Cond := Jvm.Cond.code x code maxLocals ret :: tables_1
/-- a 'code' word, met by the world's own term for the bytes: nothing is compared byte by byte -/
theorem code_word {y : MethodName} {bytes : ByteArray} {mx : Nat} {rt : Option FieldType} {a : Array Value} {s : State} {m : MethodId} {meth : Method} {c : Code} (h1 : s.methodNamed? y = some m) (h2 : s.vm.method? m = some meth) (h3 : meth.code = some c) (h4 : c.code = bytes)
    (h5 : (c.maxLocals == mx && c.exceptionTable.isEmpty && decide (c.maxStack ≤ mostOperands) && decide (meth.sig.returnType = rt) && !meth.locks && decide (parseMethodDescriptor y.desc = some meth.sig)) = true) : (Jvm.Cond.code y bytes mx rt).before a s = true := by
  simp only [Bool.and_eq_true, beq_iff_eq, Bool.not_eq_true', decide_eq_true_eq] at h5
  obtain ⟨⟨⟨⟨⟨g1, g2⟩, g3⟩, g4⟩, g5⟩, g6⟩ := h5
  simp [Cond.before, Cond.holds, Cond.value, h1, h2, h3, h4, g1, g2, g3, g4, g5, g6]
def isCode : Jvm.Cond → Bool
  | .code _ _ _ _ => true
  | _ => false
theorem all_split {L : List Jvm.Cond} {P : Jvm.Cond → Bool} (h1 : L.all (fun c => isCode c || P c) = true) (h2 : ∀ c ∈ L.filter isCode, P c = true) : L.all P = true := by
  refine List.all_eq_true.mpr fun c hc => ?_
  have h := List.all_eq_true.mp h1 c hc
  rcases Bool.eq_false_or_eq_true (isCode c) with hi | hi
  · exact h2 c (List.mem_filter.mpr ⟨hc, hi⟩)
  · simpa [hi] using h
set_option maxRecDepth 65536 in
theorem w_c0 : (Jvm.Cond.code x code maxLocals ret).before args0 about1 = true := code_word (m := ⟨1, 1⟩) (meth := k1m1) (c := k1c1) (by decide +kernel) rfl rfl rfl (by decide +kernel)
set_option maxRecDepth 65536 in
theorem w_c1 : (Jvm.Cond.code ({ cls := "java/lang/Math", name := "max", desc := "(JJ)J" } : Jvm.MethodName) jdk_29_method_66_code (4 : Nat) (Option.some Jvm.ClassFile.FieldType.long)).before args0 about1 = true := code_word (m := ⟨2, 3⟩) (meth := k2m3) (c := k2c3) (by decide +kernel) rfl rfl rfl (by decide +kernel)
set_option maxRecDepth 65536 in
theorem w_c2 : (Jvm.Cond.code ({ cls := "com/example/entry_by_measure/entrybymeasure/model/BurstRateLimit", name := "<init>", desc := "(JJJ)V" } : Jvm.MethodName) prog_13_method_1_code (7 : Nat) (Option.none : Option Jvm.ClassFile.FieldType)).before args0 about1 = true := code_word (m := ⟨5, 0⟩) (meth := k5m0) (c := k5c0) (by decide +kernel) rfl rfl rfl (by decide +kernel)
set_option maxRecDepth 65536 in
theorem w_c3 : (Jvm.Cond.code ({ cls := "java/lang/Object", name := "<init>", desc := "()V" } : Jvm.MethodName) object_method_1_code (1 : Nat) (Option.none : Option Jvm.ClassFile.FieldType)).before args0 about1 = true := code_word (m := ⟨0, 0⟩) (meth := k0m0) (c := k0c0) (by decide +kernel) rfl rfl rfl (by decide +kernel)
set_option maxRecDepth 65536 in
theorem w_c4 : (Jvm.Cond.code ({ cls := "com/example/entry_by_measure/entrybymeasure/util/Bounds", name := "atLeastOne", desc := "(Ljava/lang/String;JLjava/lang/String;)J" } : Jvm.MethodName) prog_58_method_2_code (4 : Nat) (Option.some Jvm.ClassFile.FieldType.long)).before args0 about1 = true := code_word (m := ⟨12, 1⟩) (meth := k12m1) (c := k12c1) (by decide +kernel) rfl rfl rfl (by decide +kernel)
set_option maxRecDepth 65536 in
theorem w_c5 : (Jvm.Cond.code ({ cls := "com/example/entry_by_measure/entrybymeasure/service/TokenBucket$Shape", name := "<init>", desc := "(Lcom/example/entry_by_measure/entrybymeasure/model/BurstRateLimit;)V" } : Jvm.MethodName) prog_55_method_1_code (2 : Nat) (Option.none : Option Jvm.ClassFile.FieldType)).before args0 about1 = true := code_word (m := ⟨3, 0⟩) (meth := k3m0) (c := k3c0) (by decide +kernel) rfl rfl rfl (by decide +kernel)
set_option maxRecDepth 65536 in
theorem w_c6 : (Jvm.Cond.code ({ cls := "com/example/entry_by_measure/entrybymeasure/model/BurstRateLimit", name := "capacity", desc := "()J" } : Jvm.MethodName) prog_13_method_2_code (1 : Nat) (Option.some Jvm.ClassFile.FieldType.long)).before args0 about1 = true := code_word (m := ⟨5, 1⟩) (meth := k5m1) (c := k5c1) (by decide +kernel) rfl rfl rfl (by decide +kernel)
set_option maxRecDepth 65536 in
theorem w_c7 : (Jvm.Cond.code ({ cls := "com/example/entry_by_measure/entrybymeasure/model/BurstRateLimit", name := "refill", desc := "()J" } : Jvm.MethodName) prog_13_method_3_code (1 : Nat) (Option.some Jvm.ClassFile.FieldType.long)).before args0 about1 = true := code_word (m := ⟨5, 2⟩) (meth := k5m2) (c := k5c2) (by decide +kernel) rfl rfl rfl (by decide +kernel)
set_option maxRecDepth 65536 in
theorem w_c8 : (Jvm.Cond.code ({ cls := "com/example/entry_by_measure/entrybymeasure/model/BurstRateLimit", name := "periodMillis", desc := "()J" } : Jvm.MethodName) prog_13_method_4_code (1 : Nat) (Option.some Jvm.ClassFile.FieldType.long)).before args0 about1 = true := code_word (m := ⟨5, 3⟩) (meth := k5m3) (c := k5c3) (by decide +kernel) rfl rfl rfl (by decide +kernel)
set_option maxRecDepth 65536 in
theorem w_c9 : (Jvm.Cond.code ({ cls := "com/example/entry_by_measure/entrybymeasure/service/TokenBucket$Shape", name := "<init>", desc := "(JJJ)V" } : Jvm.MethodName) prog_55_method_2_code (7 : Nat) (Option.none : Option Jvm.ClassFile.FieldType)).before args0 about1 = true := code_word (m := ⟨3, 1⟩) (meth := k3m1) (c := k3c1) (by decide +kernel) rfl rfl rfl (by decide +kernel)
set_option maxRecDepth 65536 in
theorem w_c10 : (Jvm.Cond.code ({ cls := "com/example/entry_by_measure/entrybymeasure/service/Divisor", name := "<init>", desc := "(J)V" } : Jvm.MethodName) prog_44_method_1_code (4 : Nat) (Option.none : Option Jvm.ClassFile.FieldType)).before args0 about1 = true := code_word (m := ⟨13, 0⟩) (meth := k13m0) (c := k13c0) (by decide +kernel) rfl rfl rfl (by decide +kernel)
set_option maxRecDepth 65536 in
theorem w_c11 : (Jvm.Cond.code ({ cls := "java/lang/Long", name := "numberOfLeadingZeros", desc := "(J)I" } : Jvm.MethodName) jdk_35_method_48_code (3 : Nat) (Option.some Jvm.ClassFile.FieldType.int)).before args0 about1 = true := code_word (m := ⟨15, 0⟩) (meth := k15m0) (c := k15c0) (by decide +kernel) rfl rfl rfl (by decide +kernel)
set_option maxRecDepth 65536 in
theorem w_c12 : (Jvm.Cond.code ({ cls := "java/lang/Integer", name := "numberOfLeadingZeros", desc := "(I)I" } : Jvm.MethodName) jdk_33_method_47_code (2 : Nat) (Option.some Jvm.ClassFile.FieldType.int)).before args0 about1 = true := code_word (m := ⟨16, 0⟩) (meth := k16m0) (c := k16c0) (by decide +kernel) rfl rfl rfl (by decide +kernel)
set_option maxRecDepth 65536 in
theorem w_c13 : (Jvm.Cond.code ({ cls := "java/lang/Math", name := "max", desc := "(II)I" } : Jvm.MethodName) jdk_29_method_65_code (2 : Nat) (Option.some Jvm.ClassFile.FieldType.int)).before args0 about1 = true := code_word (m := ⟨2, 2⟩) (meth := k2m2) (c := k2c2) (by decide +kernel) rfl rfl rfl (by decide +kernel)
set_option maxRecDepth 65536 in
theorem w_c14 : (Jvm.Cond.code ({ cls := "java/math/BigInteger", name := "shiftLeft", desc := "(I)Ljava/math/BigInteger;" } : Jvm.MethodName) jdk_2097_method_101_code (2 : Nat) (Option.some (Jvm.ClassFile.FieldType.object "java/math/BigInteger"))).before args0 about1 = true := code_word (m := ⟨17, 7⟩) (meth := k17m7) (c := k17c7) (by decide +kernel) rfl rfl rfl (by decide +kernel)
set_option maxRecDepth 65536 in
theorem w_c15 : (Jvm.Cond.code ({ cls := "java/math/BigInteger", name := "shiftLeft", desc := "([II)[I" } : Jvm.MethodName) jdk_2097_method_102_code (10 : Nat) (Option.some (Jvm.ClassFile.FieldType.array Jvm.ClassFile.FieldType.int))).before args0 about1 = true := code_word (m := ⟨17, 8⟩) (meth := k17m8) (c := k17c8) (by decide +kernel) rfl rfl rfl (by decide +kernel)
set_option maxRecDepth 65536 in
theorem w_c16 : (Jvm.Cond.code ({ cls := "java/math/BigInteger", name := "<init>", desc := "([II)V" } : Jvm.MethodName) jdk_2097_method_25_code (3 : Nat) (Option.none : Option Jvm.ClassFile.FieldType)).before args0 about1 = true := code_word (m := ⟨17, 0⟩) (meth := k17m0) (c := k17c0) (by decide +kernel) rfl rfl rfl (by decide +kernel)
set_option maxRecDepth 65536 in
theorem w_c17 : (Jvm.Cond.code ({ cls := "java/lang/Number", name := "<init>", desc := "()V" } : Jvm.MethodName) jdk_18_method_1_code (1 : Nat) (Option.none : Option Jvm.ClassFile.FieldType)).before args0 about1 = true := code_word (m := ⟨14, 0⟩) (meth := k14m0) (c := k14c0) (by decide +kernel) rfl rfl rfl (by decide +kernel)
set_option maxRecDepth 65536 in
theorem w_c18 : (Jvm.Cond.code ({ cls := "java/math/BigInteger", name := "valueOf", desc := "(J)Ljava/math/BigInteger;" } : Jvm.MethodName) jdk_2097_method_29_code (2 : Nat) (Option.some (Jvm.ClassFile.FieldType.object "java/math/BigInteger"))).before args0 about1 = true := code_word (m := ⟨17, 1⟩) (meth := k17m1) (c := k17c1) (by decide +kernel) rfl rfl rfl (by decide +kernel)
set_option maxRecDepth 65536 in
theorem w_c19 : (Jvm.Cond.code ({ cls := "java/math/BigInteger", name := "add", desc := "(Ljava/math/BigInteger;)Ljava/math/BigInteger;" } : Jvm.MethodName) jdk_2097_method_32_code (4 : Nat) (Option.some (Jvm.ClassFile.FieldType.object "java/math/BigInteger"))).before args0 about1 = true := code_word (m := ⟨17, 3⟩) (meth := k17m3) (c := k17c3) (by decide +kernel) rfl rfl rfl (by decide +kernel)
set_option maxRecDepth 65536 in
theorem w_c20 : (Jvm.Cond.code ({ cls := "java/math/BigInteger", name := "add", desc := "([I[I)[I" } : Jvm.MethodName) jdk_2097_method_35_code (9 : Nat) (Option.some (Jvm.ClassFile.FieldType.array Jvm.ClassFile.FieldType.int))).before args0 about1 = true := code_word (m := ⟨17, 4⟩) (meth := k17m4) (c := k17c4) (by decide +kernel) rfl rfl rfl (by decide +kernel)
set_option maxRecDepth 65536 in
theorem w_c21 : (Jvm.Cond.code ({ cls := "java/math/BigInteger", name := "divide", desc := "(Ljava/math/BigInteger;)Ljava/math/BigInteger;" } : Jvm.MethodName) jdk_2097_method_61_code (2 : Nat) (Option.some (Jvm.ClassFile.FieldType.object "java/math/BigInteger"))).before args0 about1 = true := code_word (m := ⟨17, 5⟩) (meth := k17m5) (c := k17c5) (by decide +kernel) rfl rfl rfl (by decide +kernel)
set_option maxRecDepth 65536 in
theorem w_c22 : (Jvm.Cond.code ({ cls := "java/math/BigInteger", name := "divideKnuth", desc := "(Ljava/math/BigInteger;)Ljava/math/BigInteger;" } : Jvm.MethodName) jdk_2097_method_62_code (5 : Nat) (Option.some (Jvm.ClassFile.FieldType.object "java/math/BigInteger"))).before args0 about1 = true := code_word (m := ⟨17, 6⟩) (meth := k17m6) (c := k17c6) (by decide +kernel) rfl rfl rfl (by decide +kernel)
set_option maxRecDepth 65536 in
theorem w_c23 : (Jvm.Cond.code ({ cls := "java/math/MutableBigInteger", name := "<init>", desc := "()V" } : Jvm.MethodName) jdk_2101_method_1_code (1 : Nat) (Option.none : Option Jvm.ClassFile.FieldType)).before args0 about1 = true := code_word (m := ⟨19, 0⟩) (meth := k19m0) (c := k19c0) (by decide +kernel) rfl rfl rfl (by decide +kernel)
set_option maxRecDepth 65536 in
theorem w_c24 : (Jvm.Cond.code ({ cls := "java/math/MutableBigInteger", name := "<init>", desc := "([I)V" } : Jvm.MethodName) jdk_2101_method_3_code (2 : Nat) (Option.none : Option Jvm.ClassFile.FieldType)).before args0 about1 = true := code_word (m := ⟨19, 1⟩) (meth := k19m1) (c := k19c1) (by decide +kernel) rfl rfl rfl (by decide +kernel)
set_option maxRecDepth 65536 in
theorem w_c25 : (Jvm.Cond.code ({ cls := "java/math/MutableBigInteger", name := "divideKnuth", desc := "(Ljava/math/MutableBigInteger;Ljava/math/MutableBigInteger;Z)Ljava/math/MutableBigInteger;" } : Jvm.MethodName) jdk_2101_method_57_code (8 : Nat) (Option.some (Jvm.ClassFile.FieldType.object "java/math/MutableBigInteger"))).before args0 about1 = true := code_word (m := ⟨19, 10⟩) (meth := k19m10) (c := k19c10) (by decide +kernel) rfl rfl rfl (by decide +kernel)
set_option maxRecDepth 65536 in
theorem w_c26 : (Jvm.Cond.code ({ cls := "java/math/MutableBigInteger", name := "compare", desc := "(Ljava/math/MutableBigInteger;)I" } : Jvm.MethodName) jdk_2101_method_15_code (8 : Nat) (Option.some Jvm.ClassFile.FieldType.int)).before args0 about1 = true := code_word (m := ⟨19, 5⟩) (meth := k19m5) (c := k19c5) (by decide +kernel) rfl rfl rfl (by decide +kernel)
set_option maxRecDepth 65536 in
theorem w_c27 : (Jvm.Cond.code ({ cls := "java/math/MutableBigInteger", name := "clear", desc := "()V" } : Jvm.MethodName) jdk_2101_method_13_code (3 : Nat) (Option.none : Option Jvm.ClassFile.FieldType)).before args0 about1 = true := code_word (m := ⟨19, 4⟩) (meth := k19m4) (c := k19c4) (by decide +kernel) rfl rfl rfl (by decide +kernel)
set_option maxRecDepth 65536 in
theorem w_c28 : (Jvm.Cond.code ({ cls := "java/math/MutableBigInteger", name := "divideOneWord", desc := "(ILjava/math/MutableBigInteger;)I" } : Jvm.MethodName) jdk_2101_method_53_code (15 : Nat) (Option.some Jvm.ClassFile.FieldType.int)).before args0 about1 = true := code_word (m := ⟨19, 9⟩) (meth := k19m9) (c := k19c9) (by decide +kernel) rfl rfl rfl (by decide +kernel)
set_option maxRecDepth 65536 in
theorem w_c29 : (Jvm.Cond.code ({ cls := "java/math/MutableBigInteger", name := "normalize", desc := "()V" } : Jvm.MethodName) jdk_2101_method_21_code (4 : Nat) (Option.none : Option Jvm.ClassFile.FieldType)).before args0 about1 = true := code_word (m := ⟨19, 6⟩) (meth := k19m6) (c := k19c6) (by decide +kernel) rfl rfl rfl (by decide +kernel)
set_option maxRecDepth 65536 in
theorem w_c30 : (Jvm.Cond.code ({ cls := "java/math/MutableBigInteger", name := "toBigInteger", desc := "(I)Ljava/math/BigInteger;" } : Jvm.MethodName) jdk_2101_method_9_code (2 : Nat) (Option.some (Jvm.ClassFile.FieldType.object "java/math/BigInteger"))).before args0 about1 = true := code_word (m := ⟨19, 3⟩) (meth := k19m3) (c := k19c3) (by decide +kernel) rfl rfl rfl (by decide +kernel)
set_option maxRecDepth 65536 in
theorem w_c31 : (Jvm.Cond.code ({ cls := "java/math/MutableBigInteger", name := "getMagnitudeArray", desc := "()[I" } : Jvm.MethodName) jdk_2101_method_7_code (2 : Nat) (Option.some (Jvm.ClassFile.FieldType.array Jvm.ClassFile.FieldType.int))).before args0 about1 = true := code_word (m := ⟨19, 2⟩) (meth := k19m2) (c := k19c2) (by decide +kernel) rfl rfl rfl (by decide +kernel)
set_option maxRecDepth 65536 in
theorem w_c32 : (Jvm.Cond.code ({ cls := "java/util/Arrays", name := "copyOfRange", desc := "([III)[I" } : Jvm.MethodName) jdk_65_method_136_code (3 : Nat) (Option.some (Jvm.ClassFile.FieldType.array Jvm.ClassFile.FieldType.int))).before args0 about1 = true := code_word (m := ⟨20, 3⟩) (meth := k20m3) (c := k20c3) (by decide +kernel) rfl rfl rfl (by decide +kernel)
set_option maxRecDepth 65536 in
theorem w_c33 : (Jvm.Cond.code ({ cls := "java/util/Arrays", name := "copyOfRangeInt", desc := "([III)[I" } : Jvm.MethodName) jdk_65_method_137_code (5 : Nat) (Option.some (Jvm.ClassFile.FieldType.array Jvm.ClassFile.FieldType.int))).before args0 about1 = true := code_word (m := ⟨20, 4⟩) (meth := k20m4) (c := k20c4) (by decide +kernel) rfl rfl rfl (by decide +kernel)
set_option maxRecDepth 65536 in
theorem w_c34 : (Jvm.Cond.code ({ cls := "java/util/Arrays", name := "checkLength", desc := "(II)V" } : Jvm.MethodName) jdk_65_method_131_code (2 : Nat) (Option.none : Option Jvm.ClassFile.FieldType)).before args0 about1 = true := code_word (m := ⟨20, 2⟩) (meth := k20m2) (c := k20c2) (by decide +kernel) rfl rfl rfl (by decide +kernel)
set_option maxRecDepth 65536 in
theorem w_c35 : (Jvm.Cond.code ({ cls := "java/lang/Math", name := "min", desc := "(II)I" } : Jvm.MethodName) jdk_29_method_69_code (2 : Nat) (Option.some Jvm.ClassFile.FieldType.int)).before args0 about1 = true := code_word (m := ⟨2, 4⟩) (meth := k2m4) (c := k2c4) (by decide +kernel) rfl rfl rfl (by decide +kernel)
set_option maxRecDepth 65536 in
theorem w_c36 : (Jvm.Cond.code ({ cls := "java/util/Arrays", name := "fill", desc := "([II)V" } : Jvm.MethodName) jdk_65_method_103_code (4 : Nat) (Option.none : Option Jvm.ClassFile.FieldType)).before args0 about1 = true := code_word (m := ⟨20, 1⟩) (meth := k20m1) (c := k20c1) (by decide +kernel) rfl rfl rfl (by decide +kernel)
set_option maxRecDepth 65536 in
theorem w_c37 : (Jvm.Cond.code ({ cls := "java/math/BigInteger", name := "longValue", desc := "()J" } : Jvm.MethodName) jdk_2097_method_136_code (4 : Nat) (Option.some Jvm.ClassFile.FieldType.long)).before args0 about1 = true := code_word (m := ⟨17, 10⟩) (meth := k17m10) (c := k17c10) (by decide +kernel) rfl rfl rfl (by decide +kernel)
set_option maxRecDepth 65536 in
theorem w_c38 : (Jvm.Cond.code ({ cls := "java/math/BigInteger", name := "getInt", desc := "(I)I" } : Jvm.MethodName) jdk_2097_method_148_code (3 : Nat) (Option.some Jvm.ClassFile.FieldType.int)).before args0 about1 = true := code_word (m := ⟨17, 11⟩) (meth := k17m11) (c := k17c11) (by decide +kernel) rfl rfl rfl (by decide +kernel)
set_option maxRecDepth 65536 in
theorem w_c39 : (Jvm.Cond.code ({ cls := "java/util/Objects", name := "checkFromToIndex", desc := "(III)I" } : Jvm.MethodName) jdk_31_method_18_code (3 : Nat) (Option.some Jvm.ClassFile.FieldType.int)).before args0 about1 = true := code_word (m := ⟨21, 1⟩) (meth := k21m1) (c := k21c1) (by decide +kernel) rfl rfl rfl (by decide +kernel)
set_option maxRecDepth 65536 in
theorem w_c40 : (Jvm.Cond.code ({ cls := "jdk/internal/util/Preconditions", name := "checkFromToIndex", desc := "(IIILjava/util/function/BiFunction;)I" } : Jvm.MethodName) jdk_41_method_12_code (4 : Nat) (Option.some Jvm.ClassFile.FieldType.int)).before args0 about1 = true := code_word (m := ⟨22, 1⟩) (meth := k22m1) (c := k22c1) (by decide +kernel) rfl rfl rfl (by decide +kernel)
set_option maxRecDepth 65536 in
theorem w_c41 : (Jvm.Cond.code ({ cls := "java/math/BigInteger", name := "shiftLeftImplWorker", desc := "([I[IIII)V" } : Jvm.MethodName) jdk_2097_method_103_code (7 : Nat) (Option.none : Option Jvm.ClassFile.FieldType)).before args0 about1 = true := code_word (m := ⟨17, 9⟩) (meth := k17m9) (c := k17c9) (by decide +kernel) rfl rfl rfl (by decide +kernel)
set_option maxRecDepth 65536 in
theorem w_c42 : (Jvm.Cond.code ({ cls := "java/math/BigInteger", name := "<init>", desc := "(J)V" } : Jvm.MethodName) jdk_2097_method_30_code (4 : Nat) (Option.none : Option Jvm.ClassFile.FieldType)).before args0 about1 = true := code_word (m := ⟨17, 2⟩) (meth := k17m2) (c := k17c2) (by decide +kernel) rfl rfl rfl (by decide +kernel)
set_option maxRecDepth 65536 in
theorem w_c43 : (Jvm.Cond.code ({ cls := "java/math/MutableBigInteger", name := "divideMagnitude", desc := "(Ljava/math/MutableBigInteger;Ljava/math/MutableBigInteger;Z)Ljava/math/MutableBigInteger;" } : Jvm.MethodName) jdk_2101_method_65_code (28 : Nat) (Option.some (Jvm.ClassFile.FieldType.object "java/math/MutableBigInteger"))).before args0 about1 = true := code_word (m := ⟨19, 12⟩) (meth := k19m12) (c := k19c12) (by decide +kernel) rfl rfl rfl (by decide +kernel)
set_option maxRecDepth 65536 in
theorem w_c44 : (Jvm.Cond.code ({ cls := "java/math/MutableBigInteger", name := "copyAndShift", desc := "([III[III)V" } : Jvm.MethodName) jdk_2101_method_64_code (10 : Nat) (Option.none : Option Jvm.ClassFile.FieldType)).before args0 about1 = true := code_word (m := ⟨19, 11⟩) (meth := k19m11) (c := k19c11) (by decide +kernel) rfl rfl rfl (by decide +kernel)
set_option maxRecDepth 65536 in
theorem w_c45 : (Jvm.Cond.code ({ cls := "java/math/MutableBigInteger", name := "divWord", desc := "(JI)J" } : Jvm.MethodName) jdk_2101_method_70_code (9 : Nat) (Option.some Jvm.ClassFile.FieldType.long)).before args0 about1 = true := code_word (m := ⟨19, 14⟩) (meth := k19m14) (c := k19c14) (by decide +kernel) rfl rfl rfl (by decide +kernel)
set_option maxRecDepth 65536 in
theorem w_c46 : (Jvm.Cond.code ({ cls := "java/math/MutableBigInteger", name := "unsignedLongCompare", desc := "(JJ)Z" } : Jvm.MethodName) jdk_2101_method_69_code (5 : Nat) (Option.some Jvm.ClassFile.FieldType.boolean)).before args0 about1 = true := code_word (m := ⟨19, 13⟩) (meth := k19m13) (c := k19c13) (by decide +kernel) rfl rfl rfl (by decide +kernel)
set_option maxRecDepth 65536 in
theorem w_c47 : (Jvm.Cond.code ({ cls := "java/math/MutableBigInteger", name := "mulsub", desc := "([I[IIII)I" } : Jvm.MethodName) jdk_2101_method_39_code (15 : Nat) (Option.some Jvm.ClassFile.FieldType.int)).before args0 about1 = true := code_word (m := ⟨19, 7⟩) (meth := k19m7) (c := k19c7) (by decide +kernel) rfl rfl rfl (by decide +kernel)
set_option maxRecDepth 65536 in
theorem w_c48 : (Jvm.Cond.code ({ cls := "java/math/MutableBigInteger", name := "mulsubBorrow", desc := "([I[IIII)I" } : Jvm.MethodName) jdk_2101_method_40_code (15 : Nat) (Option.some Jvm.ClassFile.FieldType.int)).before args0 about1 = true := code_word (m := ⟨19, 8⟩) (meth := k19m8) (c := k19c8) (by decide +kernel) rfl rfl rfl (by decide +kernel)
set_option maxRecDepth 65536 in
theorem w_c49 : (Jvm.Cond.code ({ cls := "com/example/entry_by_measure/entrybymeasure/service/Divisor", name := "divideUp", desc := "(J)J" } : Jvm.MethodName) prog_44_method_3_code (5 : Nat) (Option.some Jvm.ClassFile.FieldType.long)).before args0 about1 = true := code_word (m := ⟨13, 2⟩) (meth := k13m2) (c := k13c2) (by decide +kernel) rfl rfl rfl (by decide +kernel)
set_option maxRecDepth 65536 in
theorem w_c50 : (Jvm.Cond.code ({ cls := "com/example/entry_by_measure/entrybymeasure/service/Divisor", name := "divide", desc := "(J)J" } : Jvm.MethodName) prog_44_method_2_code (5 : Nat) (Option.some Jvm.ClassFile.FieldType.long)).before args0 about1 = true := code_word (m := ⟨13, 1⟩) (meth := k13m1) (c := k13c1) (by decide +kernel) rfl rfl rfl (by decide +kernel)
set_option maxRecDepth 65536 in
theorem w_c51 : (Jvm.Cond.code ({ cls := "java/lang/Math", name := "multiplyHigh", desc := "(JJ)J" } : Jvm.MethodName) jdk_29_method_45_code (20 : Nat) (Option.some Jvm.ClassFile.FieldType.long)).before args0 about1 = true := code_word (m := ⟨2, 1⟩) (meth := k2m1) (c := k2c1) (by decide +kernel) rfl rfl rfl (by decide +kernel)
set_option maxRecDepth 65536 in
theorem w_c52 : (Jvm.Cond.code ({ cls := "com/example/entry_by_measure/entrybymeasure/model/Decision", name := "allowed", desc := "(JJ)Lcom/example/entry_by_measure/entrybymeasure/model/Decision;" } : Jvm.MethodName) prog_16_method_3_code (4 : Nat) (Option.some (Jvm.ClassFile.FieldType.object "com/example/entry_by_measure/entrybymeasure/model/Decision"))).before args0 about1 = true := code_word (m := ⟨23, 1⟩) (meth := k23m1) (c := k23c1) (by decide +kernel) rfl rfl rfl (by decide +kernel)
set_option maxRecDepth 65536 in
theorem w_c53 : (Jvm.Cond.code ({ cls := "com/example/entry_by_measure/entrybymeasure/model/Decision", name := "<init>", desc := "(ZJJJ)V" } : Jvm.MethodName) prog_16_method_1_code (8 : Nat) (Option.none : Option Jvm.ClassFile.FieldType)).before args0 about1 = true := code_word (m := ⟨23, 0⟩) (meth := k23m0) (c := k23c0) (by decide +kernel) rfl rfl rfl (by decide +kernel)
set_option maxRecDepth 65536 in
theorem w_c54 : (Jvm.Cond.code ({ cls := "com/example/entry_by_measure/entrybymeasure/service/TokenBucket$Shape", name := "holds", desc := "(J)Z" } : Jvm.MethodName) prog_55_method_6_code (3 : Nat) (Option.some Jvm.ClassFile.FieldType.boolean)).before args0 about1 = true := code_word (m := ⟨3, 2⟩) (meth := k3m2) (c := k3c2) (by decide +kernel) rfl rfl rfl (by decide +kernel)
def codes1 : List Jvm.Cond := [Jvm.Cond.code x code maxLocals ret, Jvm.Cond.code ({ cls := "java/lang/Math", name := "max", desc := "(JJ)J" } : Jvm.MethodName) jdk_29_method_66_code (4 : Nat) (Option.some Jvm.ClassFile.FieldType.long), Jvm.Cond.code ({ cls := "com/example/entry_by_measure/entrybymeasure/model/BurstRateLimit", name := "<init>", desc := "(JJJ)V" } : Jvm.MethodName) prog_13_method_1_code (7 : Nat) (Option.none : Option Jvm.ClassFile.FieldType), Jvm.Cond.code ({ cls := "java/lang/Object", name := "<init>", desc := "()V" } : Jvm.MethodName) object_method_1_code (1 : Nat) (Option.none : Option Jvm.ClassFile.FieldType), Jvm.Cond.code ({ cls := "com/example/entry_by_measure/entrybymeasure/util/Bounds", name := "atLeastOne", desc := "(Ljava/lang/String;JLjava/lang/String;)J" } : Jvm.MethodName) prog_58_method_2_code (4 : Nat) (Option.some Jvm.ClassFile.FieldType.long), Jvm.Cond.code ({ cls := "com/example/entry_by_measure/entrybymeasure/service/TokenBucket$Shape", name := "<init>", desc := "(Lcom/example/entry_by_measure/entrybymeasure/model/BurstRateLimit;)V" } : Jvm.MethodName) prog_55_method_1_code (2 : Nat) (Option.none : Option Jvm.ClassFile.FieldType), Jvm.Cond.code ({ cls := "com/example/entry_by_measure/entrybymeasure/model/BurstRateLimit", name := "capacity", desc := "()J" } : Jvm.MethodName) prog_13_method_2_code (1 : Nat) (Option.some Jvm.ClassFile.FieldType.long), Jvm.Cond.code ({ cls := "com/example/entry_by_measure/entrybymeasure/model/BurstRateLimit", name := "refill", desc := "()J" } : Jvm.MethodName) prog_13_method_3_code (1 : Nat) (Option.some Jvm.ClassFile.FieldType.long), Jvm.Cond.code ({ cls := "com/example/entry_by_measure/entrybymeasure/model/BurstRateLimit", name := "periodMillis", desc := "()J" } : Jvm.MethodName) prog_13_method_4_code (1 : Nat) (Option.some Jvm.ClassFile.FieldType.long), Jvm.Cond.code ({ cls := "com/example/entry_by_measure/entrybymeasure/service/TokenBucket$Shape", name := "<init>", desc := "(JJJ)V" } : Jvm.MethodName) prog_55_method_2_code (7 : Nat) (Option.none : Option Jvm.ClassFile.FieldType), Jvm.Cond.code ({ cls := "com/example/entry_by_measure/entrybymeasure/service/Divisor", name := "<init>", desc := "(J)V" } : Jvm.MethodName) prog_44_method_1_code (4 : Nat) (Option.none : Option Jvm.ClassFile.FieldType), Jvm.Cond.code ({ cls := "java/lang/Long", name := "numberOfLeadingZeros", desc := "(J)I" } : Jvm.MethodName) jdk_35_method_48_code (3 : Nat) (Option.some Jvm.ClassFile.FieldType.int), Jvm.Cond.code ({ cls := "java/lang/Integer", name := "numberOfLeadingZeros", desc := "(I)I" } : Jvm.MethodName) jdk_33_method_47_code (2 : Nat) (Option.some Jvm.ClassFile.FieldType.int), Jvm.Cond.code ({ cls := "java/lang/Math", name := "max", desc := "(II)I" } : Jvm.MethodName) jdk_29_method_65_code (2 : Nat) (Option.some Jvm.ClassFile.FieldType.int), Jvm.Cond.code ({ cls := "java/math/BigInteger", name := "shiftLeft", desc := "(I)Ljava/math/BigInteger;" } : Jvm.MethodName) jdk_2097_method_101_code (2 : Nat) (Option.some (Jvm.ClassFile.FieldType.object "java/math/BigInteger")), Jvm.Cond.code ({ cls := "java/math/BigInteger", name := "shiftLeft", desc := "([II)[I" } : Jvm.MethodName) jdk_2097_method_102_code (10 : Nat) (Option.some (Jvm.ClassFile.FieldType.array Jvm.ClassFile.FieldType.int)), Jvm.Cond.code ({ cls := "java/math/BigInteger", name := "<init>", desc := "([II)V" } : Jvm.MethodName) jdk_2097_method_25_code (3 : Nat) (Option.none : Option Jvm.ClassFile.FieldType), Jvm.Cond.code ({ cls := "java/lang/Number", name := "<init>", desc := "()V" } : Jvm.MethodName) jdk_18_method_1_code (1 : Nat) (Option.none : Option Jvm.ClassFile.FieldType), Jvm.Cond.code ({ cls := "java/math/BigInteger", name := "valueOf", desc := "(J)Ljava/math/BigInteger;" } : Jvm.MethodName) jdk_2097_method_29_code (2 : Nat) (Option.some (Jvm.ClassFile.FieldType.object "java/math/BigInteger")), Jvm.Cond.code ({ cls := "java/math/BigInteger", name := "add", desc := "(Ljava/math/BigInteger;)Ljava/math/BigInteger;" } : Jvm.MethodName) jdk_2097_method_32_code (4 : Nat) (Option.some (Jvm.ClassFile.FieldType.object "java/math/BigInteger")), Jvm.Cond.code ({ cls := "java/math/BigInteger", name := "add", desc := "([I[I)[I" } : Jvm.MethodName) jdk_2097_method_35_code (9 : Nat) (Option.some (Jvm.ClassFile.FieldType.array Jvm.ClassFile.FieldType.int)), Jvm.Cond.code ({ cls := "java/math/BigInteger", name := "divide", desc := "(Ljava/math/BigInteger;)Ljava/math/BigInteger;" } : Jvm.MethodName) jdk_2097_method_61_code (2 : Nat) (Option.some (Jvm.ClassFile.FieldType.object "java/math/BigInteger")), Jvm.Cond.code ({ cls := "java/math/BigInteger", name := "divideKnuth", desc := "(Ljava/math/BigInteger;)Ljava/math/BigInteger;" } : Jvm.MethodName) jdk_2097_method_62_code (5 : Nat) (Option.some (Jvm.ClassFile.FieldType.object "java/math/BigInteger")), Jvm.Cond.code ({ cls := "java/math/MutableBigInteger", name := "<init>", desc := "()V" } : Jvm.MethodName) jdk_2101_method_1_code (1 : Nat) (Option.none : Option Jvm.ClassFile.FieldType), Jvm.Cond.code ({ cls := "java/math/MutableBigInteger", name := "<init>", desc := "([I)V" } : Jvm.MethodName) jdk_2101_method_3_code (2 : Nat) (Option.none : Option Jvm.ClassFile.FieldType), Jvm.Cond.code ({ cls := "java/math/MutableBigInteger", name := "divideKnuth", desc := "(Ljava/math/MutableBigInteger;Ljava/math/MutableBigInteger;Z)Ljava/math/MutableBigInteger;" } : Jvm.MethodName) jdk_2101_method_57_code (8 : Nat) (Option.some (Jvm.ClassFile.FieldType.object "java/math/MutableBigInteger")), Jvm.Cond.code ({ cls := "java/math/MutableBigInteger", name := "compare", desc := "(Ljava/math/MutableBigInteger;)I" } : Jvm.MethodName) jdk_2101_method_15_code (8 : Nat) (Option.some Jvm.ClassFile.FieldType.int), Jvm.Cond.code ({ cls := "java/math/MutableBigInteger", name := "clear", desc := "()V" } : Jvm.MethodName) jdk_2101_method_13_code (3 : Nat) (Option.none : Option Jvm.ClassFile.FieldType), Jvm.Cond.code ({ cls := "java/math/MutableBigInteger", name := "divideOneWord", desc := "(ILjava/math/MutableBigInteger;)I" } : Jvm.MethodName) jdk_2101_method_53_code (15 : Nat) (Option.some Jvm.ClassFile.FieldType.int), Jvm.Cond.code ({ cls := "java/math/MutableBigInteger", name := "normalize", desc := "()V" } : Jvm.MethodName) jdk_2101_method_21_code (4 : Nat) (Option.none : Option Jvm.ClassFile.FieldType), Jvm.Cond.code ({ cls := "java/math/MutableBigInteger", name := "toBigInteger", desc := "(I)Ljava/math/BigInteger;" } : Jvm.MethodName) jdk_2101_method_9_code (2 : Nat) (Option.some (Jvm.ClassFile.FieldType.object "java/math/BigInteger")), Jvm.Cond.code ({ cls := "java/math/MutableBigInteger", name := "getMagnitudeArray", desc := "()[I" } : Jvm.MethodName) jdk_2101_method_7_code (2 : Nat) (Option.some (Jvm.ClassFile.FieldType.array Jvm.ClassFile.FieldType.int)), Jvm.Cond.code ({ cls := "java/util/Arrays", name := "copyOfRange", desc := "([III)[I" } : Jvm.MethodName) jdk_65_method_136_code (3 : Nat) (Option.some (Jvm.ClassFile.FieldType.array Jvm.ClassFile.FieldType.int)), Jvm.Cond.code ({ cls := "java/util/Arrays", name := "copyOfRangeInt", desc := "([III)[I" } : Jvm.MethodName) jdk_65_method_137_code (5 : Nat) (Option.some (Jvm.ClassFile.FieldType.array Jvm.ClassFile.FieldType.int)), Jvm.Cond.code ({ cls := "java/util/Arrays", name := "checkLength", desc := "(II)V" } : Jvm.MethodName) jdk_65_method_131_code (2 : Nat) (Option.none : Option Jvm.ClassFile.FieldType), Jvm.Cond.code ({ cls := "java/lang/Math", name := "min", desc := "(II)I" } : Jvm.MethodName) jdk_29_method_69_code (2 : Nat) (Option.some Jvm.ClassFile.FieldType.int), Jvm.Cond.code ({ cls := "java/util/Arrays", name := "fill", desc := "([II)V" } : Jvm.MethodName) jdk_65_method_103_code (4 : Nat) (Option.none : Option Jvm.ClassFile.FieldType), Jvm.Cond.code ({ cls := "java/math/BigInteger", name := "longValue", desc := "()J" } : Jvm.MethodName) jdk_2097_method_136_code (4 : Nat) (Option.some Jvm.ClassFile.FieldType.long), Jvm.Cond.code ({ cls := "java/math/BigInteger", name := "getInt", desc := "(I)I" } : Jvm.MethodName) jdk_2097_method_148_code (3 : Nat) (Option.some Jvm.ClassFile.FieldType.int), Jvm.Cond.code ({ cls := "java/util/Objects", name := "checkFromToIndex", desc := "(III)I" } : Jvm.MethodName) jdk_31_method_18_code (3 : Nat) (Option.some Jvm.ClassFile.FieldType.int), Jvm.Cond.code ({ cls := "jdk/internal/util/Preconditions", name := "checkFromToIndex", desc := "(IIILjava/util/function/BiFunction;)I" } : Jvm.MethodName) jdk_41_method_12_code (4 : Nat) (Option.some Jvm.ClassFile.FieldType.int), Jvm.Cond.code ({ cls := "java/math/BigInteger", name := "shiftLeftImplWorker", desc := "([I[IIII)V" } : Jvm.MethodName) jdk_2097_method_103_code (7 : Nat) (Option.none : Option Jvm.ClassFile.FieldType), Jvm.Cond.code ({ cls := "java/math/BigInteger", name := "<init>", desc := "(J)V" } : Jvm.MethodName) jdk_2097_method_30_code (4 : Nat) (Option.none : Option Jvm.ClassFile.FieldType), Jvm.Cond.code ({ cls := "java/math/MutableBigInteger", name := "divideMagnitude", desc := "(Ljava/math/MutableBigInteger;Ljava/math/MutableBigInteger;Z)Ljava/math/MutableBigInteger;" } : Jvm.MethodName) jdk_2101_method_65_code (28 : Nat) (Option.some (Jvm.ClassFile.FieldType.object "java/math/MutableBigInteger")), Jvm.Cond.code ({ cls := "java/math/MutableBigInteger", name := "copyAndShift", desc := "([III[III)V" } : Jvm.MethodName) jdk_2101_method_64_code (10 : Nat) (Option.none : Option Jvm.ClassFile.FieldType), Jvm.Cond.code ({ cls := "java/math/MutableBigInteger", name := "divWord", desc := "(JI)J" } : Jvm.MethodName) jdk_2101_method_70_code (9 : Nat) (Option.some Jvm.ClassFile.FieldType.long), Jvm.Cond.code ({ cls := "java/math/MutableBigInteger", name := "unsignedLongCompare", desc := "(JJ)Z" } : Jvm.MethodName) jdk_2101_method_69_code (5 : Nat) (Option.some Jvm.ClassFile.FieldType.boolean), Jvm.Cond.code ({ cls := "java/math/MutableBigInteger", name := "mulsub", desc := "([I[IIII)I" } : Jvm.MethodName) jdk_2101_method_39_code (15 : Nat) (Option.some Jvm.ClassFile.FieldType.int), Jvm.Cond.code ({ cls := "java/math/MutableBigInteger", name := "mulsubBorrow", desc := "([I[IIII)I" } : Jvm.MethodName) jdk_2101_method_40_code (15 : Nat) (Option.some Jvm.ClassFile.FieldType.int), Jvm.Cond.code ({ cls := "com/example/entry_by_measure/entrybymeasure/service/Divisor", name := "divideUp", desc := "(J)J" } : Jvm.MethodName) prog_44_method_3_code (5 : Nat) (Option.some Jvm.ClassFile.FieldType.long), Jvm.Cond.code ({ cls := "com/example/entry_by_measure/entrybymeasure/service/Divisor", name := "divide", desc := "(J)J" } : Jvm.MethodName) prog_44_method_2_code (5 : Nat) (Option.some Jvm.ClassFile.FieldType.long), Jvm.Cond.code ({ cls := "java/lang/Math", name := "multiplyHigh", desc := "(JJ)J" } : Jvm.MethodName) jdk_29_method_45_code (20 : Nat) (Option.some Jvm.ClassFile.FieldType.long), Jvm.Cond.code ({ cls := "com/example/entry_by_measure/entrybymeasure/model/Decision", name := "allowed", desc := "(JJ)Lcom/example/entry_by_measure/entrybymeasure/model/Decision;" } : Jvm.MethodName) prog_16_method_3_code (4 : Nat) (Option.some (Jvm.ClassFile.FieldType.object "com/example/entry_by_measure/entrybymeasure/model/Decision")), Jvm.Cond.code ({ cls := "com/example/entry_by_measure/entrybymeasure/model/Decision", name := "<init>", desc := "(ZJJJ)V" } : Jvm.MethodName) prog_16_method_1_code (8 : Nat) (Option.none : Option Jvm.ClassFile.FieldType), Jvm.Cond.code ({ cls := "com/example/entry_by_measure/entrybymeasure/service/TokenBucket$Shape", name := "holds", desc := "(J)Z" } : Jvm.MethodName) prog_55_method_6_code (3 : Nat) (Option.some Jvm.ClassFile.FieldType.boolean)]
set_option maxRecDepth 65536 in
theorem codes_eq : words1.filter isCode = codes1 := rfl
theorem w_codes : ∀ c ∈ words1.filter isCode, c.before args0 about1 = true := by
  rw [codes_eq]
  intro c hc
  simp only [codes1, List.mem_cons, List.not_mem_nil, or_false] at hc
  rcases hc with rfl | rfl | rfl | rfl | rfl | rfl | rfl | rfl | rfl | rfl | rfl | rfl | rfl | rfl | rfl | rfl | rfl | rfl | rfl | rfl | rfl | rfl | rfl | rfl | rfl | rfl | rfl | rfl | rfl | rfl | rfl | rfl | rfl | rfl | rfl | rfl | rfl | rfl | rfl | rfl | rfl | rfl | rfl | rfl | rfl | rfl | rfl | rfl | rfl | rfl | rfl | rfl | rfl | rfl | rfl
  · exact w_c0
  · exact w_c1
  · exact w_c2
  · exact w_c3
  · exact w_c4
  · exact w_c5
  · exact w_c6
  · exact w_c7
  · exact w_c8
  · exact w_c9
  · exact w_c10
  · exact w_c11
  · exact w_c12
  · exact w_c13
  · exact w_c14
  · exact w_c15
  · exact w_c16
  · exact w_c17
  · exact w_c18
  · exact w_c19
  · exact w_c20
  · exact w_c21
  · exact w_c22
  · exact w_c23
  · exact w_c24
  · exact w_c25
  · exact w_c26
  · exact w_c27
  · exact w_c28
  · exact w_c29
  · exact w_c30
  · exact w_c31
  · exact w_c32
  · exact w_c33
  · exact w_c34
  · exact w_c35
  · exact w_c36
  · exact w_c37
  · exact w_c38
  · exact w_c39
  · exact w_c40
  · exact w_c41
  · exact w_c42
  · exact w_c43
  · exact w_c44
  · exact w_c45
  · exact w_c46
  · exact w_c47
  · exact w_c48
  · exact w_c49
  · exact w_c50
  · exact w_c51
  · exact w_c52
  · exact w_c53
  · exact w_c54
set_option maxRecDepth 65536 in
theorem w_t1 : (words1.take 24).all (fun c => isCode c || c.before args0 about1) = true := by decide +kernel
set_option maxRecDepth 65536 in
theorem w_t2 : ((words1.drop 24).take 24).all (fun c => isCode c || c.before args0 about1) = true := by decide +kernel
set_option maxRecDepth 65536 in
theorem w_t3 : (((words1.drop 24).drop 24).take 24).all (fun c => isCode c || c.before args0 about1) = true := by decide +kernel
set_option maxRecDepth 65536 in
theorem w_t4 : ((((words1.drop 24).drop 24).drop 24).take 24).all (fun c => isCode c || c.before args0 about1) = true := by decide +kernel
set_option maxRecDepth 65536 in
theorem w_t5 : (((((words1.drop 24).drop 24).drop 24).drop 24).take 24).all (fun c => isCode c || c.before args0 about1) = true := by decide +kernel
set_option maxRecDepth 65536 in
theorem w_t6 : ((((((words1.drop 24).drop 24).drop 24).drop 24).drop 24).take 24).all (fun c => isCode c || c.before args0 about1) = true := by decide +kernel
set_option maxRecDepth 65536 in
theorem w_t7 : (((((((words1.drop 24).drop 24).drop 24).drop 24).drop 24).drop 24).take 24).all (fun c => isCode c || c.before args0 about1) = true := by decide +kernel
set_option maxRecDepth 65536 in
theorem w_t8 : ((((((((words1.drop 24).drop 24).drop 24).drop 24).drop 24).drop 24).drop 24).take 24).all (fun c => isCode c || c.before args0 about1) = true := by decide +kernel
set_option maxRecDepth 65536 in
theorem w_t9 : (((((((((words1.drop 24).drop 24).drop 24).drop 24).drop 24).drop 24).drop 24).drop 24).take 24).all (fun c => isCode c || c.before args0 about1) = true := by decide +kernel
set_option maxRecDepth 65536 in
theorem w_t10 : ((((((((((words1.drop 24).drop 24).drop 24).drop 24).drop 24).drop 24).drop 24).drop 24).drop 24).take 24).all (fun c => isCode c || c.before args0 about1) = true := by decide +kernel
set_option maxRecDepth 65536 in
theorem w_t11 : (((((((((((words1.drop 24).drop 24).drop 24).drop 24).drop 24).drop 24).drop 24).drop 24).drop 24).drop 24).take 24).all (fun c => isCode c || c.before args0 about1) = true := by decide +kernel
set_option maxRecDepth 65536 in
theorem w_t12 : ((((((((((((words1.drop 24).drop 24).drop 24).drop 24).drop 24).drop 24).drop 24).drop 24).drop 24).drop 24).drop 24).take 24).all (fun c => isCode c || c.before args0 about1) = true := by decide +kernel
set_option maxRecDepth 65536 in
theorem w_t13 : (((((((((((((words1.drop 24).drop 24).drop 24).drop 24).drop 24).drop 24).drop 24).drop 24).drop 24).drop 24).drop 24).drop 24).take 24).all (fun c => isCode c || c.before args0 about1) = true := by decide +kernel
set_option maxRecDepth 65536 in
theorem w_t14 : (((((((((((((words1.drop 24).drop 24).drop 24).drop 24).drop 24).drop 24).drop 24).drop 24).drop 24).drop 24).drop 24).drop 24).drop 24).all (fun c => isCode c || c.before args0 about1) = true := by decide +kernel
theorem w_tables : (allAtoms (Jvm.Cond.code x code maxLocals ret :: tables_1)).before args0 about1 = true := by
  rw [allAtoms_all]
  show words1.all (fun c => c.before args0 about1) = true
  refine all_split ?_ w_codes
  rw [← List.take_append_drop 24 words1, List.all_append, w_t1, ← List.take_append_drop 24 (words1.drop 24), List.all_append, w_t2, ← List.take_append_drop 24 ((words1.drop 24).drop 24), List.all_append, w_t3, ← List.take_append_drop 24 (((words1.drop 24).drop 24).drop 24), List.all_append, w_t4, ← List.take_append_drop 24 ((((words1.drop 24).drop 24).drop 24).drop 24), List.all_append, w_t5, ← List.take_append_drop 24 (((((words1.drop 24).drop 24).drop 24).drop 24).drop 24), List.all_append, w_t6, ← List.take_append_drop 24 ((((((words1.drop 24).drop 24).drop 24).drop 24).drop 24).drop 24), List.all_append, w_t7, ← List.take_append_drop 24 (((((((words1.drop 24).drop 24).drop 24).drop 24).drop 24).drop 24).drop 24), List.all_append, w_t8, ← List.take_append_drop 24 ((((((((words1.drop 24).drop 24).drop 24).drop 24).drop 24).drop 24).drop 24).drop 24), List.all_append, w_t9, ← List.take_append_drop 24 (((((((((words1.drop 24).drop 24).drop 24).drop 24).drop 24).drop 24).drop 24).drop 24).drop 24), List.all_append, w_t10, ← List.take_append_drop 24 ((((((((((words1.drop 24).drop 24).drop 24).drop 24).drop 24).drop 24).drop 24).drop 24).drop 24).drop 24), List.all_append, w_t11, ← List.take_append_drop 24 (((((((((((words1.drop 24).drop 24).drop 24).drop 24).drop 24).drop 24).drop 24).drop 24).drop 24).drop 24).drop 24), List.all_append, w_t12, ← List.take_append_drop 24 ((((((((((((words1.drop 24).drop 24).drop 24).drop 24).drop 24).drop 24).drop 24).drop 24).drop 24).drop 24).drop 24).drop 24), List.all_append, w_t13, w_t14]
  rfl
set_option maxRecDepth 65536 in
theorem w_rest : rest_1_c.before args0 about1 = true := by decide +kernel
set_option maxRecDepth 65536 in
theorem w_case : (Jvm.Cond.and given_1 narrow_1).before args0 about1 = true := by decide +kernel
theorem w_applies : (headSpec (Jvm.Cond.code x code maxLocals ret :: tables_1) room_1).applies x e0.platform about1 = true :=
  (Spec.applies_iff w_frames).mpr ⟨w_running, w_runnable, w_alone, w_named, w_hears, w_ripe, w_room, w_tables⟩
theorem atStart : AtStart classFile x code maxLocals ret World_1 tables_1 room_1 Calls_1 rest_1 Pre_1 launch0 p0 e0 about1 theMethod args0 below0 :=
  ⟨lists_1, trivial, launch0.admits_env _ _ _, launch0.least_env, fairChoices_fair.cas, fairChoices_fair.clock, w_frames, w_args, w_heap, w_applies, trivial, w_rest, w_case⟩
end start1
theorem witness_1 : WitnessClaimed_1 := ⟨start1.p0, start1.e0, start1.about1, start1.theMethod, start1.args0, start1.below0, start1.atStart⟩
end Jvm.Pilot.@@N@@
