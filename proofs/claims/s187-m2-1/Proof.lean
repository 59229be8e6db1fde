import JvmDerived
import JvmDerived.Pilot.@@N@@Statement
import JvmDerived.Pilot.@@N@@Code
set_option linter.unusedVariables false
set_option linter.unusedSimpArgs false
namespace Jvm.RoadKit
open Sem ClassFile Op Lib Jvm.Stand Jvm.Free Jvm.LawKit
section New
variable {p : Program} {l : Launch} {e : Env} {R : Room} {s : State} {m : MethodId} {args : Array Value} {below : List Frame} {meth : Method} {c : Code} {T : State} {locs : List Loc} {cells slots : Nat}
theorem retI (X : Stand p l e R s m args below meth c T locs cells slots) (hx : p.tables.exec = Jvm.exec) {pc : Nat} {Ls : Array Slot} {z : Int32} {rest : List Value} (hret : meth.sig.returnType = some .int) (hd : decode c.code pc = .ok (.ireturn, 1)) {fs : List Frame}
    (hl : ∀ (f : JFrame) (acts : List Action), f.method = m → f.locked = none → f.entered = [] → (doReturn e (T.setTop f) acts (some (.int z))).1 = T.setFrames fs) : Steps p.tables e below (T.setTop (mkF m pc Ls (.int z :: rest))) (T.setFrames fs) := by
  have hm' : T.vm.method? m = some meth := X.method'
  have hn : narrow .int (.int z) = .int z := rfl
  show Steps p.tables e below (T.setTop { method := m, pc := pc, locals := Ls, stack := _ :: rest, locked := none }) _
  jvm_step X.here [X.here.top, hx, hd, hm', hret, hn]
  first | (intro acts; rw [hl _ acts rfl rfl rfl]) | rw [hl _ _ rfl rfl rfl]
  exact Steps.refl _
end New
end Jvm.RoadKit
namespace Jvm.Pilot.@@N@@
open Jvm Jvm.ClassFile Sem Op Lib Jvm.Free Jvm.Stand Jvm.LawKit Jvm.RoadKit Bundle Jvm.Pilot.@@N@@.Jvm.D
section OwnKit
/-! The own kit: a walk as one relation 'Rn' on (pc, locals, stack, heap): "from here the body runs to its promise". Each row is a library law read backwards, so that a walk may fork anywhere. -/
abbrev Wk : Type := Program × Env × State × MethodId × Array Value × List Frame × Method × Code
abbrev Wk.p (w : Wk) : Program := w.1
abbrev Wk.e (w : Wk) : Env := w.2.1
abbrev Wk.s (w : Wk) : State := w.2.2.1
abbrev Wk.m (w : Wk) : MethodId := w.2.2.2.1
abbrev Wk.a (w : Wk) : Array Value := w.2.2.2.2.1
abbrev Wk.b (w : Wk) : List Frame := w.2.2.2.2.2.1
abbrev Wk.t (w : Wk) : Method := w.2.2.2.2.2.2.1
abbrev Wk.c (w : Wk) : Code := w.2.2.2.2.2.2.2
/-- the run from (pc, Ls, S) over the heap h, with cs cells and ss slots made so far, ends in Q -/
def Rn (w : Wk) (l : Launch) (R : Room) (n0 : Nat) (F : Outcome → State → Prop) (pc : Nat) (Ls : Array Slot) (S : List Value) (h : Heap) (cs ss : Nat) : Prop :=
  ∀ (T : State) (locs : List Loc), Stand w.p l w.e R w.s w.m w.a w.b w.t w.c T locs cs ss → T.heap = h → Fr n0 locs →
    ∃ s₂ o, Steps w.p.tables w.e w.b (T.setTop (mkF w.m pc Ls S)) s₂ ∧ s₂.status = .running ∧ Ended s₂ w.b o ∧ F o s₂
/-- the promise of a body that interns nothing -/
abbrev FinQ (w : Wk) (R : Room) (n0 : Nat) (Q : Option Value → Heap → Prop) (o : Outcome) (s₂ : State) : Prop := ∃ v L, o = .returned v ∧ (Fr n0 L ∧ Q v s₂.heap) ∧ FrameEnd w.s o s₂ L R.cells R.slots
/-- what stands throughout the walk of one body -/
def Cx (w : Wk) (Z : State) (a0 : Array Value) (own : String) (bytes : ByteArray) (ml : Nat) (rt : Option FieldType) (nm : String) : Prop :=
  w.p.tables.exec = Jvm.exec ∧ w.c.code = bytes ∧ w.c.maxLocals = ml ∧ w.s.vm.findClass own = some w.m.cls ∧ Z.Warmed39 w.s.vm ∧ w.t.sig.returnType = rt ∧ w.t.locks = false ∧ w.t.name = nm ∧ ∀ d ∈ tables_1, d.before a0 Z = true
/-- a body's contract at the arguments as' over the heap h0 -/
def Met (l : Launch) (Z : State) (y : MethodName) (bytes : ByteArray) (ml : Nat) (rt : Option FieldType) (rm : Room) (n0 : Nat) (ws : List Jvm.Cond) (as' : Array Value) (h0 : Heap) (Q : Option Value → Heap → Prop) : Prop :=
  MetFree l y (head1 (Jvm.Cond.code y bytes ml rt :: ws) rm) (fun a U => a = as' ∧ Z.Warmed39 U.vm ∧ U.heap = h0) (fun _ _ _ _ _ => True) (fun _ U o U' => ∃ v L, o = .returned v ∧ (Fr n0 L ∧ Q v U'.heap) ∧ FrameEnd U o U' L rm.cells rm.slots)
variable {w : Wk} {l : Launch} {R : Room} {n0 : Nat} {F : Outcome → State → Prop} {Q : Option Value → Heap → Prop} {pc q : Nat} {Ls Ls' : Array Slot} {S : List Value} {h : Heap} {cs ss : Nat} {Z : State} {a0 : Array Value} {own : String} {bytes : ByteArray} {ml : Nat} {rt : Option FieldType} {nm : String}
theorem Cx.x (K : Cx w Z a0 own bytes ml rt nm) : w.p.tables.exec = Jvm.exec := K.1
theorem Cx.cd (K : Cx w Z a0 own bytes ml rt nm) : w.c.code = bytes := K.2.1
theorem Cx.mx (K : Cx w Z a0 own bytes ml rt nm) : w.c.maxLocals = ml := K.2.2.1
theorem Cx.ow (K : Cx w Z a0 own bytes ml rt nm) : w.s.vm.findClass own = some w.m.cls := K.2.2.2.1
theorem Cx.z (K : Cx w Z a0 own bytes ml rt nm) : Z.Warmed39 w.s.vm := K.2.2.2.2.1
theorem Cx.ret (K : Cx w Z a0 own bytes ml rt nm) : w.t.sig.returnType = rt := K.2.2.2.2.2.1
theorem Cx.lk (K : Cx w Z a0 own bytes ml rt nm) : w.t.locks = false := K.2.2.2.2.2.2.1
theorem Cx.nme (K : Cx w Z a0 own bytes ml rt nm) : w.t.name = nm := K.2.2.2.2.2.2.2.1
theorem Cx.hw (K : Cx w Z a0 own bytes ml rt nm) : ∀ d ∈ tables_1, d.before a0 Z = true := K.2.2.2.2.2.2.2.2
theorem Met.intro {y : MethodName} {as' : Array Value} {h0 : Heap} {rm : Room} {ws : List Jvm.Cond} (hp : plainFor y = true) (hw : ∀ d ∈ tables_1, d.before a0 Z = true) (ef : ∀ m, entryFrame m as' ml = mkF m 0 Ls [])
    (k : ∀ w : Wk, Cx w Z a0 y.cls bytes ml rt y.name → Rn w l rm n0 (FinQ w rm n0 Q) 0 Ls [] h0 0 0) : Met l Z y bytes ml rt rm n0 ws as' h0 Q := by
  refine MetFree.of_bodySF hp hisR ?_
  intro p e s m args below meth c s₁ Bd hml0 hP hK
  obtain ⟨ha, hZ, hh⟩ := hP
  subst ha
  have e0 : s₁.heap = h0 := by rw [← hh, Bd.state]; rfl
  obtain ⟨s₂, o, h1, h2, h3, h4⟩ := k (p, e, s, m, args, below, meth, c) ⟨Bd.exec, Bd.bytes, hml0, findClass_of_methodNamed Bd.named, hZ, Bd.returns, Bd.notSynchronized, (name_of_methodNamed Bd.named Bd.method).1, hw⟩ s₁ [] (Stand.of_body Bd) e0 (Fr.nil n0)
  exact ⟨s₂, o, castTop (ef m) h1, h2, h3, h4⟩
theorem Rn.step {S' : List Value} (st : ∀ (T : State) (locs : List Loc), Stand w.p l w.e R w.s w.m w.a w.b w.t w.c T locs cs ss → ∀ t, Steps w.p.tables w.e w.b (T.setTop (mkF w.m q Ls' S')) t → Steps w.p.tables w.e w.b (T.setTop (mkF w.m pc Ls S)) t)
    (k : Rn w l R n0 F q Ls' S' h cs ss) : Rn w l R n0 F pc Ls S h cs ss := fun T locs X eT N => by
  obtain ⟨s₂, o, h1, r⟩ := k T locs X eT N
  exact ⟨s₂, o, st T locs X _ h1, r⟩
/-! plain steps -/
theorem Rn.iloadN (K : Cx w Z a0 own bytes ml rt nm) {k : Fin 4} {v : Int32} (hd : decode bytes pc = .ok (.iload_n k, 1)) (hl : Ls[k.val]? = some (.val (.int v))) (hq : pc + 1 = q) (r : Rn w l R n0 F q Ls (.int v :: S) h cs ss) : Rn w l R n0 F pc Ls S h cs ss := by
  subst hq; exact Rn.step (fun T locs X t k => XS.iloadN X.here K.x rfl (hb K.cd hd) hl k) r
theorem Rn.iload (K : Cx w Z a0 own bytes ml rt nm) {k : Nat} {v : Int32} (hd : decode bytes pc = .ok (.iload k, 2)) (hl : Ls[k]? = some (.val (.int v))) (hq : pc + 2 = q) (r : Rn w l R n0 F q Ls (.int v :: S) h cs ss) : Rn w l R n0 F pc Ls S h cs ss := by
  subst hq; exact Rn.step (fun T locs X t k => XS.iload X.here K.x rfl (hb K.cd hd) hl k) r
theorem Rn.lloadN (K : Cx w Z a0 own bytes ml rt nm) {k : Fin 4} {v : Int64} (hd : decode bytes pc = .ok (.lload_n k, 1)) (hl : Ls[k.val]? = some (.val (.long v))) (hq : pc + 1 = q) (r : Rn w l R n0 F q Ls (.long v :: S) h cs ss) : Rn w l R n0 F pc Ls S h cs ss := by
  subst hq; exact Rn.step (fun T locs X t k => XS.lloadN X.here K.x rfl (hb K.cd hd) hl k) r
theorem Rn.lload (K : Cx w Z a0 own bytes ml rt nm) {k : Nat} {v : Int64} (hd : decode bytes pc = .ok (.lload k, 2)) (hl : Ls[k]? = some (.val (.long v))) (hq : pc + 2 = q) (r : Rn w l R n0 F q Ls (.long v :: S) h cs ss) : Rn w l R n0 F pc Ls S h cs ss := by
  subst hq; exact Rn.step (fun T locs X t k => XS.lload X.here K.x rfl (hb K.cd hd) hl k) r
theorem Rn.aloadN (K : Cx w Z a0 own bytes ml rt nm) {k : Fin 4} {v : Value} (hd : decode bytes pc = .ok (.aload_n k, 1)) (hl : Ls[k.val]? = some (.val v)) (hv : v.isRef = true) (hq : pc + 1 = q) (r : Rn w l R n0 F q Ls (v :: S) h cs ss) : Rn w l R n0 F pc Ls S h cs ss := by
  subst hq; exact Rn.step (fun T locs X t k => XS.aloadN X.here K.x rfl (hb K.cd hd) hl hv k) r
theorem Rn.aload (K : Cx w Z a0 own bytes ml rt nm) {k : Nat} {v : Value} (hd : decode bytes pc = .ok (.aload k, 2)) (hl : Ls[k]? = some (.val v)) (hv : v.isRef = true) (hq : pc + 2 = q) (r : Rn w l R n0 F q Ls (v :: S) h cs ss) : Rn w l R n0 F pc Ls S h cs ss := by
  subst hq; exact Rn.step (fun T locs X t k => XS.aload X.here K.x rfl (hb K.cd hd) hl hv k) r
theorem Rn.istoreN (K : Cx w Z a0 own bytes ml rt nm) {k : Fin 4} {v : Int32} (hd : decode bytes pc = .ok (.istore_n k, 1)) (hl : storeLocals Ls k.val (.int v) = some Ls') (hq : pc + 1 = q) (r : Rn w l R n0 F q Ls' S h cs ss) : Rn w l R n0 F pc Ls (.int v :: S) h cs ss := by
  subst hq; exact Rn.step (fun T locs X t k => XS.istoreN X.here K.x rfl (hb K.cd hd) rfl hl k) r
theorem Rn.istore (K : Cx w Z a0 own bytes ml rt nm) {k : Nat} {v : Int32} (hd : decode bytes pc = .ok (.istore k, 2)) (hl : storeLocals Ls k (.int v) = some Ls') (hq : pc + 2 = q) (r : Rn w l R n0 F q Ls' S h cs ss) : Rn w l R n0 F pc Ls (.int v :: S) h cs ss := by
  subst hq; exact Rn.step (fun T locs X t k => XS.istore X.here K.x rfl (hb K.cd hd) rfl hl k) r
theorem Rn.lstoreN (K : Cx w Z a0 own bytes ml rt nm) {k : Fin 4} {v : Int64} (hd : decode bytes pc = .ok (.lstore_n k, 1)) (hl : storeLocals Ls k.val (.long v) = some Ls') (hq : pc + 1 = q) (r : Rn w l R n0 F q Ls' S h cs ss) : Rn w l R n0 F pc Ls (.long v :: S) h cs ss := by
  subst hq; exact Rn.step (fun T locs X t k => XS.lstoreN X.here K.x rfl (hb K.cd hd) rfl hl k) r
theorem Rn.lstore (K : Cx w Z a0 own bytes ml rt nm) {k : Nat} {v : Int64} (hd : decode bytes pc = .ok (.lstore k, 2)) (hl : storeLocals Ls k (.long v) = some Ls') (hq : pc + 2 = q) (r : Rn w l R n0 F q Ls' S h cs ss) : Rn w l R n0 F pc Ls (.long v :: S) h cs ss := by
  subst hq; exact Rn.step (fun T locs X t k => XS.lstore X.here K.x rfl (hb K.cd hd) rfl hl k) r
theorem Rn.astoreN (K : Cx w Z a0 own bytes ml rt nm) {k : Fin 4} {v : Value} (hd : decode bytes pc = .ok (.astore_n k, 1)) (hv : v.isRef = true) (hl : storeLocals Ls k.val v = some Ls') (hq : pc + 1 = q) (r : Rn w l R n0 F q Ls' S h cs ss) : Rn w l R n0 F pc Ls (v :: S) h cs ss := by
  subst hq; exact Rn.step (fun T locs X t k => XS.astoreN X.here K.x rfl (hb K.cd hd) rfl hv hl k) r
theorem Rn.astore (K : Cx w Z a0 own bytes ml rt nm) {k : Nat} {v : Value} (hd : decode bytes pc = .ok (.astore k, 2)) (hv : v.isRef = true) (hl : storeLocals Ls k v = some Ls') (hq : pc + 2 = q) (r : Rn w l R n0 F q Ls' S h cs ss) : Rn w l R n0 F pc Ls (v :: S) h cs ss := by
  subst hq; exact Rn.step (fun T locs X t k => XS.astore X.here K.x rfl (hb K.cd hd) rfl hv hl k) r
theorem Rn.iconst (K : Cx w Z a0 own bytes ml rt nm) {i : Int} (v : Int32) (hd : decode bytes pc = .ok (.iconst i, 1)) (hv : Int32.ofInt i = v) (hq : pc + 1 = q) (r : Rn w l R n0 F q Ls (.int v :: S) h cs ss) : Rn w l R n0 F pc Ls S h cs ss := by
  subst hq hv; exact Rn.step (fun T locs X t k => XS.iconst X.here K.x rfl (hb K.cd hd) k) r
theorem Rn.bipush (K : Cx w Z a0 own bytes ml rt nm) {i : Int} (v : Int32) (hd : decode bytes pc = .ok (.bipush i, 2)) (hv : (Int8.ofInt i).toInt32 = v) (hq : pc + 2 = q) (r : Rn w l R n0 F q Ls (.int v :: S) h cs ss) : Rn w l R n0 F pc Ls S h cs ss := by
  subst hq hv; exact Rn.step (fun T locs X t k => XS.bipush X.here K.x rfl (hb K.cd hd) k) r
theorem Rn.sipush (K : Cx w Z a0 own bytes ml rt nm) {i : Int} (v : Int32) (hd : decode bytes pc = .ok (.sipush i, 3)) (hv : (Int16.ofInt i).toInt32 = v) (hq : pc + 3 = q) (r : Rn w l R n0 F q Ls (.int v :: S) h cs ss) : Rn w l R n0 F pc Ls S h cs ss := by
  subst hq hv; exact Rn.step (fun T locs X t k => XS.sipush X.here K.x rfl (hb K.cd hd) k) r
theorem Rn.lconst (K : Cx w Z a0 own bytes ml rt nm) {i : Fin 2} (v : Int64) (hd : decode bytes pc = .ok (.lconst i, 1)) (hv : Int64.ofNat i = v) (hq : pc + 1 = q) (r : Rn w l R n0 F q Ls (.long v :: S) h cs ss) : Rn w l R n0 F pc Ls S h cs ss := by
  subst hq hv; exact Rn.step (fun T locs X t k => XS.lconst X.here K.x rfl (hb K.cd hd) k) r
theorem Rn.aconst_null (K : Cx w Z a0 own bytes ml rt nm) (hd : decode bytes pc = .ok (.aconst_null, 1)) (hq : pc + 1 = q) (r : Rn w l R n0 F q Ls (.null :: S) h cs ss) : Rn w l R n0 F pc Ls S h cs ss := by
  subst hq; exact Rn.step (fun T locs X t k => XS.aconstNull X.here K.x rfl (hb K.cd hd) k) r
theorem Rn.ldcI (K : Cx w Z a0 own bytes ml rt nm) {i : Nat} (v : Int32) (hi : Jvm.Cond.constant own i v ∈ tables_1) (hd : decode bytes pc = .ok (.ldc i, 2)) (hq : pc + 2 = q) (r : Rn w l R n0 F q Ls (.int v :: S) h cs ss) : Rn w l R n0 F pc Ls S h cs ss := by
  subst hq; exact Rn.step (fun T locs X t k => X.ldcI K.x K.ow (mvT K.z (K.hw _ hi)) rfl (hb K.cd hd) k) r
theorem Rn.ldc2J (K : Cx w Z a0 own bytes ml rt nm) {i : Nat} (v : Int64) (hi : Jvm.Cond.constantLong own i v ∈ tables_1) (hd : decode bytes pc = .ok (.ldc2_w i, 3)) (hq : pc + 3 = q) (r : Rn w l R n0 F q Ls (.long v :: S) h cs ss) : Rn w l R n0 F pc Ls S h cs ss := by
  subst hq; exact Rn.step (fun T locs X t k => X.ldc2J K.x K.ow (mvT K.z (K.hw _ hi)) rfl (hb K.cd hd) k) r
theorem Rn.iadd (K : Cx w Z a0 own bytes ml rt nm) {x y : Int32} (hd : decode bytes pc = .ok (.iadd, 1)) (hq : pc + 1 = q) (r : Rn w l R n0 F q Ls (.int (x + y) :: S) h cs ss) : Rn w l R n0 F pc Ls (.int y :: .int x :: S) h cs ss := by
  subst hq; exact Rn.step (fun T locs X t k => XS.iadd X.here K.x rfl (hb K.cd hd) rfl k) r
theorem Rn.isub (K : Cx w Z a0 own bytes ml rt nm) {x y : Int32} (hd : decode bytes pc = .ok (.isub, 1)) (hq : pc + 1 = q) (r : Rn w l R n0 F q Ls (.int (x - y) :: S) h cs ss) : Rn w l R n0 F pc Ls (.int y :: .int x :: S) h cs ss := by
  subst hq; exact Rn.step (fun T locs X t k => XS.isub X.here K.x rfl (hb K.cd hd) rfl k) r
theorem Rn.imul (K : Cx w Z a0 own bytes ml rt nm) {x y : Int32} (hd : decode bytes pc = .ok (.imul, 1)) (hq : pc + 1 = q) (r : Rn w l R n0 F q Ls (.int (x * y) :: S) h cs ss) : Rn w l R n0 F pc Ls (.int y :: .int x :: S) h cs ss := by
  subst hq; exact Rn.step (fun T locs X t k => XS.imul X.here K.x rfl (hb K.cd hd) rfl k) r
theorem Rn.iand (K : Cx w Z a0 own bytes ml rt nm) {x y : Int32} (hd : decode bytes pc = .ok (.iand, 1)) (hq : pc + 1 = q) (r : Rn w l R n0 F q Ls (.int (x &&& y) :: S) h cs ss) : Rn w l R n0 F pc Ls (.int y :: .int x :: S) h cs ss := by
  subst hq; exact Rn.step (fun T locs X t k => XS.iand X.here K.x rfl (hb K.cd hd) rfl k) r
theorem Rn.ior (K : Cx w Z a0 own bytes ml rt nm) {x y : Int32} (hd : decode bytes pc = .ok (.ior, 1)) (hq : pc + 1 = q) (r : Rn w l R n0 F q Ls (.int (x ||| y) :: S) h cs ss) : Rn w l R n0 F pc Ls (.int y :: .int x :: S) h cs ss := by
  subst hq; exact Rn.step (fun T locs X t k => XS.ior X.here K.x rfl (hb K.cd hd) rfl k) r
theorem Rn.iushr (K : Cx w Z a0 own bytes ml rt nm) {x y : Int32} (hd : decode bytes pc = .ok (.iushr, 1)) (hq : pc + 1 = q) (r : Rn w l R n0 F q Ls (.int ((x.toUInt32 >>> (y &&& 31).toUInt32).toInt32) :: S) h cs ss) : Rn w l R n0 F pc Ls (.int y :: .int x :: S) h cs ss := by
  subst hq; exact Rn.step (fun T locs X t k => XS.iushr X.here K.x rfl (hb K.cd hd) rfl k) r
theorem Rn.ishr (K : Cx w Z a0 own bytes ml rt nm) {x y : Int32} (hd : decode bytes pc = .ok (.ishr, 1)) (hq : pc + 1 = q) (r : Rn w l R n0 F q Ls (.int (x >>> (y &&& 31)) :: S) h cs ss) : Rn w l R n0 F pc Ls (.int y :: .int x :: S) h cs ss := by
  subst hq; exact Rn.step (fun T locs X t k => XS.ishr X.here K.x rfl (hb K.cd hd) rfl k) r
theorem Rn.irem (K : Cx w Z a0 own bytes ml rt nm) {x y : Int32} (hd : decode bytes pc = .ok (.irem, 1)) (hy : y ≠ 0) (hq : pc + 1 = q) (r : Rn w l R n0 F q Ls (.int (x % y) :: S) h cs ss) : Rn w l R n0 F pc Ls (.int y :: .int x :: S) h cs ss := by
  subst hq; exact Rn.step (fun T locs X t k => iremM X K.x rfl (hb K.cd hd) rfl hy k) r
theorem Rn.land (K : Cx w Z a0 own bytes ml rt nm) {x y : Int64} (hd : decode bytes pc = .ok (.land, 1)) (hq : pc + 1 = q) (r : Rn w l R n0 F q Ls (.long (x &&& y) :: S) h cs ss) : Rn w l R n0 F pc Ls (.long y :: .long x :: S) h cs ss := by
  subst hq; exact Rn.step (fun T locs X t k => XS.land X.here K.x rfl (hb K.cd hd) rfl k) r
theorem Rn.lmul (K : Cx w Z a0 own bytes ml rt nm) {x y : Int64} (hd : decode bytes pc = .ok (.lmul, 1)) (hq : pc + 1 = q) (r : Rn w l R n0 F q Ls (.long (x * y) :: S) h cs ss) : Rn w l R n0 F pc Ls (.long y :: .long x :: S) h cs ss := by
  subst hq; exact Rn.step (fun T locs X t k => XS.lmul X.here K.x rfl (hb K.cd hd) rfl k) r
theorem Rn.lneg (K : Cx w Z a0 own bytes ml rt nm) {x : Int64} (hd : decode bytes pc = .ok (.lneg, 1)) (hq : pc + 1 = q) (r : Rn w l R n0 F q Ls (.long (-x) :: S) h cs ss) : Rn w l R n0 F pc Ls (.long x :: S) h cs ss := by
  subst hq; exact Rn.step (fun T locs X t k => XS.lneg X.here K.x rfl (hb K.cd hd) rfl k) r
theorem Rn.lcmp (K : Cx w Z a0 own bytes ml rt nm) {x y : Int64} (hd : decode bytes pc = .ok (.lcmp, 1)) (hq : pc + 1 = q) (r : Rn w l R n0 F q Ls (.int (lcmpW x y) :: S) h cs ss) : Rn w l R n0 F pc Ls (.long y :: .long x :: S) h cs ss := by
  subst hq; exact Rn.step (fun T locs X t k => XS.lcmp X.here K.x rfl (hb K.cd hd) rfl k) r
theorem Rn.i2l (K : Cx w Z a0 own bytes ml rt nm) {x : Int32} (hd : decode bytes pc = .ok (.i2l, 1)) (hq : pc + 1 = q) (r : Rn w l R n0 F q Ls (.long x.toInt64 :: S) h cs ss) : Rn w l R n0 F pc Ls (.int x :: S) h cs ss := by
  subst hq; exact Rn.step (fun T locs X t k => XS.i2l X.here K.x rfl (hb K.cd hd) rfl k) r
theorem Rn.i2c (K : Cx w Z a0 own bytes ml rt nm) {x : Int32} (hd : decode bytes pc = .ok (.i2c, 1)) (hq : pc + 1 = q) (r : Rn w l R n0 F q Ls (.int x.toUInt32.toUInt16.toUInt32.toInt32 :: S) h cs ss) : Rn w l R n0 F pc Ls (.int x :: S) h cs ss := by
  subst hq; exact Rn.step (fun T locs X t k => XS.i2c X.here K.x rfl (hb K.cd hd) rfl k) r
theorem Rn.dup (K : Cx w Z a0 own bytes ml rt nm) {x : Value} (hd : decode bytes pc = .ok (.dup, 1)) (hc : x.category = 1) (hq : pc + 1 = q) (r : Rn w l R n0 F q Ls (x :: x :: S) h cs ss) : Rn w l R n0 F pc Ls (x :: S) h cs ss := by
  subst hq; exact Rn.step (fun T locs X t k => XS.dup X.here K.x rfl (hb K.cd hd) rfl hc k) r
theorem Rn.pop (K : Cx w Z a0 own bytes ml rt nm) {x : Value} (hd : decode bytes pc = .ok (.pop, 1)) (hc : x.category = 1) (hq : pc + 1 = q) (r : Rn w l R n0 F q Ls S h cs ss) : Rn w l R n0 F pc Ls (x :: S) h cs ss := by
  subst hq; exact Rn.step (fun T locs X t k => XS.pop X.here K.x rfl (hb K.cd hd) rfl hc k) r
theorem Rn.dup_x1 (K : Cx w Z a0 own bytes ml rt nm) {x y : Value} (hd : decode bytes pc = .ok (.dup_x1, 1)) (hc : x.category = 1) (hc' : y.category = 1) (hq : pc + 1 = q) (r : Rn w l R n0 F q Ls (x :: y :: x :: S) h cs ss) : Rn w l R n0 F pc Ls (x :: y :: S) h cs ss := by
  subst hq; exact Rn.step (fun T locs X t k => XS.dupX1 X.here K.x rfl (hb K.cd hd) rfl hc hc' k) r
theorem Rn.dup2L (K : Cx w Z a0 own bytes ml rt nm) {x : Int64} (hd : decode bytes pc = .ok (.dup2, 1)) (hq : pc + 1 = q) (r : Rn w l R n0 F q Ls (.long x :: .long x :: S) h cs ss) : Rn w l R n0 F pc Ls (.long x :: S) h cs ss := by
  subst hq; exact Rn.step (fun T locs X t k => XT.dup2L X.here K.x rfl (hb K.cd hd) rfl k) r
theorem Rn.iinc (K : Cx w Z a0 own bytes ml rt nm) {k : Nat} {i : Int} {x : Int32} (v : Int32) (hd : decode bytes pc = .ok (.iinc k i, 3)) (hv : Int32.ofInt i = v) (hl : Ls[k]? = some (.val (.int x))) (hl' : storeLocals Ls k (.int (x + v)) = some Ls') (hq : pc + 3 = q) (r : Rn w l R n0 F q Ls' S h cs ss) : Rn w l R n0 F pc Ls S h cs ss := by
  subst hq hv; exact Rn.step (fun T locs X t k => XS.iinc X.here K.x rfl (hb K.cd hd) hl hl' k) r
theorem Rn.goto (K : Cx w Z a0 own bytes ml rt nm) {o : Int} (hd : decode bytes pc = .ok (.goto o, 3)) (ho : 0 ≤ (pc : Int) + o) (hq : ((pc : Int) + o).toNat = q) (r : Rn w l R n0 F q Ls S h cs ss) : Rn w l R n0 F pc Ls S h cs ss :=
  Rn.step (fun T locs X t k => XS.goto X.here K.x rfl rfl (hb K.cd hd) ho hq k) r
theorem Rn.ifY (K : Cx w Z a0 own bytes ml rt nm) {cd : ClassFile.Cond} {x : Int32} {o : Int} (hd : decode bytes pc = .ok (.ifCond cd o, 3)) (hc : ifCond.holds cd x = true) (ho : 0 ≤ (pc : Int) + o) (hq : ((pc : Int) + o).toNat = q) (r : Rn w l R n0 F q Ls S h cs ss) : Rn w l R n0 F pc Ls (.int x :: S) h cs ss :=
  Rn.step (fun T locs X t k => XS.ifYes X.here K.x rfl rfl (hb K.cd hd) rfl hc ho hq k) r
theorem Rn.ifN (K : Cx w Z a0 own bytes ml rt nm) {cd : ClassFile.Cond} {x : Int32} {o : Int} (hd : decode bytes pc = .ok (.ifCond cd o, 3)) (hc : ifCond.holds cd x = false) (hq : pc + 3 = q) (r : Rn w l R n0 F q Ls S h cs ss) : Rn w l R n0 F pc Ls (.int x :: S) h cs ss := by
  subst hq; exact Rn.step (fun T locs X t k => XS.ifNo X.here K.x rfl (hb K.cd hd) rfl hc k) r
theorem Rn.icY (K : Cx w Z a0 own bytes ml rt nm) {cd : ClassFile.Cond} {x y : Int32} {o : Int} (hd : decode bytes pc = .ok (.if_icmp cd o, 3)) (hc : if_icmp.holds cd x y = true) (ho : 0 ≤ (pc : Int) + o) (hq : ((pc : Int) + o).toNat = q) (r : Rn w l R n0 F q Ls S h cs ss) : Rn w l R n0 F pc Ls (.int y :: .int x :: S) h cs ss :=
  Rn.step (fun T locs X t k => XS.icmpYes X.here K.x rfl rfl (hb K.cd hd) rfl hc ho hq k) r
theorem Rn.icN (K : Cx w Z a0 own bytes ml rt nm) {cd : ClassFile.Cond} {x y : Int32} {o : Int} (hd : decode bytes pc = .ok (.if_icmp cd o, 3)) (hc : if_icmp.holds cd x y = false) (hq : pc + 3 = q) (r : Rn w l R n0 F q Ls S h cs ss) : Rn w l R n0 F pc Ls (.int y :: .int x :: S) h cs ss := by
  subst hq; exact Rn.step (fun T locs X t k => XS.icmpNo X.here K.x rfl (hb K.cd hd) rfl hc k) r
theorem Rn.acY (K : Cx w Z a0 own bytes ml rt nm) {cd : ClassFile.ACond} {x y : Value} {o : Int} (hd : decode bytes pc = .ok (.if_acmp cd o, 3)) (h1 : x.isRef = true) (h2 : y.isRef = true) (hc : XT.acmp cd x y = true) (ho : 0 ≤ (pc : Int) + o) (hq : ((pc : Int) + o).toNat = q) (r : Rn w l R n0 F q Ls S h cs ss) : Rn w l R n0 F pc Ls (y :: x :: S) h cs ss :=
  Rn.step (fun T locs X t k => XT.acmpYes X.here K.x rfl rfl (hb K.cd hd) rfl h1 h2 hc ho hq k) r
theorem Rn.acN (K : Cx w Z a0 own bytes ml rt nm) {cd : ClassFile.ACond} {x y : Value} {o : Int} (hd : decode bytes pc = .ok (.if_acmp cd o, 3)) (h1 : x.isRef = true) (h2 : y.isRef = true) (hc : XT.acmp cd x y = false) (hq : pc + 3 = q) (r : Rn w l R n0 F q Ls S h cs ss) : Rn w l R n0 F pc Ls (y :: x :: S) h cs ss := by
  subst hq; exact Rn.step (fun T locs X t k => XT.acmpNo X.here K.x rfl (hb K.cd hd) rfl h1 h2 hc k) r
theorem Rn.nullY (K : Cx w Z a0 own bytes ml rt nm) {o : Int} (hd : decode bytes pc = .ok (.ifnull o, 3)) (ho : 0 ≤ (pc : Int) + o) (hq : ((pc : Int) + o).toNat = q) (r : Rn w l R n0 F q Ls S h cs ss) : Rn w l R n0 F pc Ls (.null :: S) h cs ss :=
  Rn.step (fun T locs X t k => XS.ifnullYes X.here K.x rfl rfl (hb K.cd hd) rfl ho hq k) r
theorem Rn.nullN (K : Cx w Z a0 own bytes ml rt nm) {o : Int} {b : Addr} (hd : decode bytes pc = .ok (.ifnull o, 3)) (hq : pc + 3 = q) (r : Rn w l R n0 F q Ls S h cs ss) : Rn w l R n0 F pc Ls (.ref b :: S) h cs ss := by
  subst hq; exact Rn.step (fun T locs X t k => XS.ifnullNo X.here K.x rfl (hb K.cd hd) rfl k) r
theorem Rn.nonnullY (K : Cx w Z a0 own bytes ml rt nm) {o : Int} {b : Addr} (hd : decode bytes pc = .ok (.ifnonnull o, 3)) (ho : 0 ≤ (pc : Int) + o) (hq : ((pc : Int) + o).toNat = q) (r : Rn w l R n0 F q Ls S h cs ss) : Rn w l R n0 F pc Ls (.ref b :: S) h cs ss :=
  Rn.step (fun T locs X t k => XS.ifnonnullYes X.here K.x rfl rfl (hb K.cd hd) rfl ho hq k) r
theorem Rn.nonnullN (K : Cx w Z a0 own bytes ml rt nm) {o : Int} (hd : decode bytes pc = .ok (.ifnonnull o, 3)) (hq : pc + 3 = q) (r : Rn w l R n0 F q Ls S h cs ss) : Rn w l R n0 F pc Ls (.null :: S) h cs ss := by
  subst hq; exact Rn.step (fun T locs X t k => XS.ifnonnullNo X.here K.x rfl (hb K.cd hd) rfl k) r
/-! the ends -/
theorem Rn.retN (K : Cx w Z a0 own bytes ml rt nm) {x : Int32} (t : FieldType) (ht : rt = some t) (ht' : t = .boolean ∨ t = .byte ∨ t = .char ∨ t = .short) (hd : decode bytes pc = .ok (.ireturn, 1)) (hc : cs ≤ R.cells) (hs : ss ≤ R.slots) (hQ : Q (some (.int (nar t x))) h) : Rn w l R n0 (FinQ w R n0 Q) pc Ls (.int x :: S) h cs ss := fun T locs X eT N => by
  obtain ⟨fs, hr, hrun, hended, hW, hsame⟩ := X.leave (v := some (.int (nar t x))) (fun h => by rw [K.ret, ht] at h; cases h) K.lk
  exact ⟨_, _, Jvm.RoadKit.retN X K.x (K.ret.trans ht) ht' (hb K.cd hd) hr, hrun, hended, _, _, rfl, ⟨N, by rw [← eT] at hQ; exact hQ⟩, ⟨_, rfl⟩, hW, hsame.mono hc hs⟩
theorem Rn.retI (K : Cx w Z a0 own bytes ml rt nm) {x : Int32} (ht : rt = some .int) (hd : decode bytes pc = .ok (.ireturn, 1)) (hc : cs ≤ R.cells) (hs : ss ≤ R.slots) (hQ : Q (some (.int x)) h) : Rn w l R n0 (FinQ w R n0 Q) pc Ls (.int x :: S) h cs ss := fun T locs X eT N => by
  obtain ⟨fs, hr, hrun, hended, hW, hsame⟩ := X.leave (v := some (.int x)) (fun h => by rw [K.ret, ht] at h; cases h) K.lk
  exact ⟨_, _, Jvm.RoadKit.retI X K.x (K.ret.trans ht) (hb K.cd hd) hr, hrun, hended, _, _, rfl, ⟨N, by rw [← eT] at hQ; exact hQ⟩, ⟨_, rfl⟩, hW, hsame.mono hc hs⟩
theorem Rn.retJ (K : Cx w Z a0 own bytes ml rt nm) {x : Int64} (ht : rt = some .long) (hd : decode bytes pc = .ok (.lreturn, 1)) (hc : cs ≤ R.cells) (hs : ss ≤ R.slots) (hQ : Q (some (.long x)) h) : Rn w l R n0 (FinQ w R n0 Q) pc Ls [.long x] h cs ss := fun T locs X eT N => by
  obtain ⟨fs, hr, hrun, hended, hW, hsame⟩ := X.leave (v := some (.long x)) (fun h => by rw [K.ret, ht] at h; cases h) K.lk
  exact ⟨_, _, X.lreturnOut K.x (K.ret.trans ht) (hb K.cd hd) hr, hrun, hended, _, _, rfl, ⟨N, by rw [← eT] at hQ; exact hQ⟩, ⟨_, rfl⟩, hW, hsame.mono hc hs⟩
theorem Rn.retA (K : Cx w Z a0 own bytes ml rt nm) {v : Value} (t : FieldType) (hv : v.isRef = true) (ht : rt = some t) (ht' : t.isReference = true) (hd : decode bytes pc = .ok (.areturn, 1)) (hc : cs ≤ R.cells) (hs : ss ≤ R.slots) (hQ : Q (some v) h) : Rn w l R n0 (FinQ w R n0 Q) pc Ls [v] h cs ss := fun T locs X eT N => by
  obtain ⟨fs, hr, hrun, hended, hW, hsame⟩ := X.leave (v := some v) (fun h => by rw [K.ret, ht] at h; cases h) K.lk
  exact ⟨_, _, X.areturnOut K.x hv (K.ret.trans ht) ht' (hb K.cd hd) hr, hrun, hended, _, _, rfl, ⟨N, by rw [← eT] at hQ; exact hQ⟩, ⟨_, rfl⟩, hW, hsame.mono hc hs⟩
theorem Rn.retV (K : Cx w Z a0 own bytes ml rt nm) (ht : rt = none) (hd : decode bytes pc = .ok (.return_, 1)) (hc : cs ≤ R.cells) (hs : ss ≤ R.slots) (hQ : Q none h) : Rn w l R n0 (FinQ w R n0 Q) pc Ls [] h cs ss := fun T locs X eT N => by
  obtain ⟨fs, hr, hrun, hended, hW, hsame⟩ := X.leave (v := none) (fun _ => rfl) K.lk
  exact ⟨_, _, X.returnOut K.x (K.ret.trans ht) (hb K.cd hd) hr, hrun, hended, _, _, rfl, ⟨N, by rw [← eT] at hQ; exact hQ⟩, ⟨_, rfl⟩, hW, hsame.mono hc hs⟩
/-! fields and statics -/
theorem Rn.getS (K : Cx w Z a0 own bytes ml rt nm) {i : Nat} {C n d : String} {v : Value} (hi : Jvm.Cond.fieldLink own i C n d ∈ tables_1) (FF : Sta Z h C n d v) (hd : decode bytes pc = .ok (.getstatic i, 3)) (hq : pc + 3 = q) (r : Rn w l R n0 F q Ls (v :: S) h cs ss) : Rn w l R n0 F pc Ls S h cs ss := fun T locs X eT N => by
  subst hq
  obtain ⟨T', X', e', st⟩ := getS2 X K.x K.z K.ow (host := "") (Or.inl (K.hw _ hi)) Via.refl eT FF (g := mkF w.m pc Ls S) rfl (hb K.cd hd)
  obtain ⟨s₂, o, h1, r'⟩ := r T' locs X' e' N
  exact ⟨s₂, o, st _ h1, r'⟩
theorem Rn.getF (K : Cx w Z a0 own bytes ml rt nm) {i : Nat} {C O n d : String} {a : Addr} {v : Value} (hi : Jvm.Cond.fieldLink own i C n d ∈ tables_1) (via : Via Z C O n d) (FF : Fld Z h a O n d v) (hd : decode bytes pc = .ok (.getfield i, 3)) (hq : pc + 3 = q) (r : Rn w l R n0 F q Ls (v :: S) h cs ss) : Rn w l R n0 F pc Ls (.ref a :: S) h cs ss := fun T locs X eT N => by
  subst hq
  obtain ⟨T', X', e', st⟩ := Jvm.RoadKit.getF X K.x K.z K.ow (host := "") (Or.inl (K.hw _ hi)) via eT FF (g := mkF w.m pc Ls (.ref a :: S)) rfl rfl (hb K.cd hd)
  obtain ⟨s₂, o, h1, r'⟩ := r T' locs X' e' N
  exact ⟨s₂, o, st _ h1, r'⟩
theorem Rn.putF (K : Cx w Z a0 own bytes ml rt nm) {i kk : Nat} {C0 O n d C : String} {ty : FieldType} {a : Addr} {v v' old : Value} (hi : Jvm.Cond.fieldLink own i C0 n d ∈ tables_1) (via : Via Z C0 O n d) (FF : Fld Z h a O n d old) (E : Exa Z h a C)
    (hl : Jvm.Cond.lays C O n d ∈ tables_1 ∨ (Jvm.Cond.laysFinal C O n d ∈ tables_1 ∧ own = O ∧ nm = "<init>")) (hin : Jvm.Cond.instantiable C kk ∈ tables_1) (hty : parseFieldDescriptor d = some ty) (hn : narrow ty v = v') (hf : fits ty v' = true) (hg : n0 ≤ a)
    (hd : decode bytes pc = .ok (.putfield i, 3)) (hq : pc + 3 = q) (r : ∀ h', Wr h h' a (Jvm.RoadKit.slotOf Z O n d) v' → Rn w l R n0 F q Ls S h' cs ss) : Rn w l R n0 F pc Ls (v :: .ref a :: S) h cs ss := fun T locs X eT N => by
  subst hq
  obtain ⟨T', h', X', e', W, st⟩ := putFN X K.x K.z K.ow (K.hw _ hi) via eT FF E (hl.elim (fun z => Or.inl (K.hw _ z)) (fun z => Or.inr ⟨K.hw _ z.1, z.2.1, K.nme.trans z.2.2⟩)) (K.hw _ hin) hty hn hf (g := mkF w.m pc Ls (v :: .ref a :: S)) rfl rfl (hb K.cd hd)
  obtain ⟨s₂, o, h1, r'⟩ := r h' W T' _ X' e' (Fr.snoc X' N hg)
  exact ⟨s₂, o, st _ h1, r'⟩
/-! making -/
theorem Rn.newO (K : Cx w Z a0 own bytes ml rt nm) {i k : Nat} {C : String} (hi : Jvm.Cond.classLink own i C ∈ tables_1) (hin : Jvm.Cond.instantiable C k ∈ tables_1) (hz : Jvm.Cond.initialized C ∈ tables_1) (hc : cs + 1 ≤ R.cells) (hs : ss + k ≤ R.slots) (hd : decode bytes pc = .ok (.new i, 3)) (hq : pc + 3 = q)
    (r : ∀ b h', b = h.size → Ext h h' → Exa Z h' b C → (∀ {O n d : String} {ty : FieldType}, Laid Z a0 C O n d → parseFieldDescriptor d = some ty → Fld Z h' b O n d (defaultValue ty)) → Rn w l R n0 F q Ls (.ref b :: S) h' (cs + 1) (ss + k)) : Rn w l R n0 F pc Ls S h cs ss := fun T locs X eT N => by
  subst hq
  obtain ⟨T', h', X', e', E, A, D, -, st⟩ := Jvm.RoadKit.newO X K.x K.z K.ow (K.hw _ hi) (K.hw _ hin) (K.hw _ hz) eT (g := mkF w.m pc Ls S) rfl (hb K.cd hd) hc hs
  obtain ⟨s₂, o, h1, r'⟩ := r _ h' rfl E A D T' _ X' e' N
  exact ⟨s₂, o, st _ h1, r'⟩
theorem Rn.newP (K : Cx w Z a0 own bytes ml rt nm) {aty : ArrayType} {x : Int32} {cap : Nat} (hi : Jvm.Cond.arrayClass (newarray.typeOf aty) ∈ tables_1) (hn : ¬ x < 0) (hcap : x.toNatClampNeg ≤ cap) (hb8 : cap * 8 ≤ 536870912) (hc : cs + 1 ≤ R.cells) (hs : ss + cap ≤ R.slots) {ad : String} (had : "[" ++ (newarray.typeOf aty).toString = ad) (hd : decode bytes pc = .ok (.newarray aty, 2)) (hq : pc + 2 = q)
    (r : ∀ b h' k, b = h.size → Ext h h' → Arv Z h' b k (newarray.typeOf aty) x [] (defaultValue (newarray.typeOf aty)) → Exa Z h' b ad → Rn w l R n0 F q Ls (.ref b :: S) h' (cs + 1) (ss + cap)) : Rn w l R n0 F pc Ls (.int x :: S) h cs ss := fun T locs X eT N => by
  subst hq
  obtain ⟨T', h', k, X', e', E, A, EA, st⟩ := newPE X K.x K.z (K.hw _ hi) eT (g := mkF w.m pc Ls (.int x :: S)) rfl (hb K.cd hd) rfl hn hcap hb8 hc hs had
  obtain ⟨s₂, o, h1, r'⟩ := r _ h' k rfl E (Arv.new A hn) EA T' _ X' e' N
  exact ⟨s₂, o, st _ h1, r'⟩
/-! calls -/
theorem nfs (K : Cx w Z a0 own bytes ml rt nm) {C : String} {y : MethodName} (i : Jvm.Cond.selects C y y ∈ tables_1) : NotFace w.s y := notFace_of_selects (args := #[]) (mvT K.z (K.hw _ i))
theorem Rn.virt (K : Cx w Z a0 own bytes ml rt nm) {index W : Nat} {y z : MethodName} {C : String} {b : Addr} {argsL rest : List Value} {bz : ByteArray} {mz : Nat} {rz : Option FieldType} {rm : Room} {Q' : Option Value → Heap → Prop}
    (i1 : Jvm.Cond.methodLink own index y ∈ tables_1) (i2 : Jvm.Cond.declares y ∈ tables_1) (nf : NotFace w.s y) (i3 : Jvm.Cond.selects C y z ∈ tables_1) (i4 : Jvm.Cond.instanceMethod z ∈ tables_1) (i5 : Jvm.Cond.code z bz mz rz ∈ tables_1) (i6 : Jvm.Cond.initialized z.cls ∈ tables_1)
    (hy : y.cls ≠ "java/lang/invoke/MethodHandle" ∧ y.cls ≠ "java/lang/invoke/VarHandle") (M : Met l Z z bz mz rz rm n0 [] (.ref b :: argsL).toArray h Q') (E : Exa Z h b C) (hf : rm.frames + 1 ≤ R.frames) (hlo : W + (mz + 11) + rm.locals ≤ R.locals)
    (hsz : Ls.size = ml) (hlen : ∀ sig, parseMethodDescriptor y.desc = some sig → argsL.length = sig.parameters.length) (hS : S = argsL.reverse ++ .ref b :: rest) (hW : (rest.map fun v => v.category).sum ≤ W)
    (hd : decode bytes pc = .ok (.invokevirtual index, 3)) (hq : pc + 3 = q) (hc : cs + rm.cells ≤ R.cells) (hs : ss + rm.slots ≤ R.slots)
    (r : ∀ v h', Q' v h' → Rn w l R n0 F q Ls (v.toList ++ rest) h' (cs + rm.cells) (ss + rm.slots)) : Rn w l R n0 F pc Ls S h cs ss := fun T locs X eT N => by
  subst hq hS
  obtain ⟨cq, kq, qa, qb, qc⟩ := isOf K.z eT E
  obtain ⟨v, _, ⟨T', L', k', n'⟩, -, X', ⟨Lc, hQ, l', y', z'⟩, st⟩ := X.virtualBack K.x (y := y) (z := z) K.ow (mvT K.z (K.hw _ i1)) (mvT K.z (K.hw _ i2)) nf (mvT K.z (K.hw _ i3)) (mvT K.z (K.hw _ i4)) hy (backOf (Q := fun v h L => Fr n0 L ∧ Q' v h) (W := W) M K.z (K.hw _ i5) (K.hw _ i6) hf hlo) qa qc (g := mkF w.m pc Ls (argsL.reverse ++ .ref b :: rest)) rfl (hsz.trans K.mx.symm) (Steps.refl _) (argsL := argsL) (rest := rest) hlen rfl (by show 2 * 0 + _ ≤ _; rw [Nat.mul_zero, Nat.zero_add]; exact hW) (hb K.cd hd) (fun _ _ => ⟨rfl, eT, hc, hs⟩)
  dsimp only [Pt.U, Pt.locs, Pt.cells, Pt.slots] at X' l' y' z' st hQ
  subst l' y' z'
  obtain ⟨s₂, o, h1, r'⟩ := r v T'.heap hQ.2 T' _ X' rfl (Fr.app N hQ.1)
  exact ⟨s₂, o, st.trans h1, r'⟩
theorem Rn.face (K : Cx w Z a0 own bytes ml rt nm) {index count W : Nat} {y z : MethodName} {C : String} {b : Addr} {argsL rest : List Value} {bz : ByteArray} {mz : Nat} {rz : Option FieldType} {rm : Room} {Q' : Option Value → Heap → Prop}
    (i1 : Jvm.Cond.methodLink own index y ∈ tables_1) (i2 : Jvm.Cond.declares y ∈ tables_1) (i2' : (Jvm.Cond.interfaceMethod y.cls y.cls y.name y.desc).before w.a w.s = true) (i3 : Jvm.Cond.selects C y z ∈ tables_1) (i4 : Jvm.Cond.instanceMethod z ∈ tables_1) (i7 : Jvm.Cond.publicMethod z ∈ tables_1) (i8 : Jvm.Cond.unhidden C y.name y.desc ∈ tables_1) (i9 : Jvm.Cond.castable C y.cls ∈ tables_1) (i5 : Jvm.Cond.code z bz mz rz ∈ tables_1) (i6 : Jvm.Cond.initialized z.cls ∈ tables_1)
    (hy : y.cls ≠ "java/lang/invoke/MethodHandle" ∧ y.cls ≠ "java/lang/invoke/VarHandle") (M : Met l Z z bz mz rz rm n0 [] (.ref b :: argsL).toArray h Q') (E : Exa Z h b C) (hf : rm.frames + 1 ≤ R.frames) (hlo : W + (mz + 11) + rm.locals ≤ R.locals)
    (hsz : Ls.size = ml) (hlen : ∀ sig, parseMethodDescriptor y.desc = some sig → argsL.length = sig.parameters.length) (hS : S = argsL.reverse ++ .ref b :: rest) (hW : (rest.map fun v => v.category).sum ≤ W)
    (hd : decode bytes pc = .ok (.invokeinterface index count, 5)) (hq : pc + 5 = q) (hc : cs + rm.cells ≤ R.cells) (hs : ss + rm.slots ≤ R.slots)
    (r : ∀ v h', Q' v h' → Rn w l R n0 F q Ls (v.toList ++ rest) h' (cs + rm.cells) (ss + rm.slots)) : Rn w l R n0 F pc Ls S h cs ss := fun T locs X eT N => by
  subst hq hS
  obtain ⟨cq, kq, qa, qb, qc⟩ := isOf K.z eT E
  obtain ⟨v, _, ⟨T', L', k', n'⟩, -, X', ⟨Lc, hQ, l', y', z'⟩, st⟩ := X.interfaceBack K.x (xi := y) (y := z) K.ow (mvT K.z (K.hw _ i1)) (mvT K.z (K.hw _ i2)) i2' (mvT K.z (K.hw _ i3)) (mvT K.z (K.hw _ i4)) (mvT K.z (K.hw _ i7)) (mvT K.z (K.hw _ i8)) (mvT K.z (K.hw _ i9)) hy (backOf (Q := fun v h L => Fr n0 L ∧ Q' v h) (W := W) M K.z (K.hw _ i5) (K.hw _ i6) hf hlo) qa qb qc (g := mkF w.m pc Ls (argsL.reverse ++ .ref b :: rest)) rfl (hsz.trans K.mx.symm) (Steps.refl _) (argsL := argsL) (rest := rest) hlen rfl (by show 2 * 0 + _ ≤ _; rw [Nat.mul_zero, Nat.zero_add]; exact hW) (hb K.cd hd) (fun _ _ => ⟨rfl, eT, hc, hs⟩)
  dsimp only [Pt.U, Pt.locs, Pt.cells, Pt.slots] at X' l' y' z' st hQ
  subst l' y' z'
  obtain ⟨s₂, o, h1, r'⟩ := r v T'.heap hQ.2 T' _ X' rfl (Fr.app N hQ.1)
  exact ⟨s₂, o, st.trans h1, r'⟩
theorem Rn.stat (K : Cx w Z a0 own bytes ml rt nm) {index W : Nat} {y : MethodName} {argsL rest : List Value} {bz : ByteArray} {mz : Nat} {rz : Option FieldType} {rm : Room} {Q' : Option Value → Heap → Prop}
    (i1 : Jvm.Cond.methodLink own index y ∈ tables_1) (i2 : Jvm.Cond.static y ∈ tables_1) (i5 : Jvm.Cond.code y bz mz rz ∈ tables_1) (i6 : Jvm.Cond.initialized y.cls ∈ tables_1)
    (hy : y.cls ≠ "java/lang/invoke/MethodHandle" ∧ y.cls ≠ "java/lang/invoke/VarHandle") (M : Met l Z y bz mz rz rm n0 [] argsL.toArray h Q') (hf : rm.frames + 1 ≤ R.frames) (hlo : W + (mz + 11) + rm.locals ≤ R.locals)
    (hsz : Ls.size = ml) (hlen : ∀ sig, parseMethodDescriptor y.desc = some sig → argsL.length = sig.parameters.length) (hS : S = argsL.reverse ++ rest) (hW : (rest.map fun v => v.category).sum ≤ W)
    (hd : decode bytes pc = .ok (.invokestatic index, 3)) (hq : pc + 3 = q) (hc : cs + rm.cells ≤ R.cells) (hs : ss + rm.slots ≤ R.slots)
    (r : ∀ v h', Q' v h' → Rn w l R n0 F q Ls (v.toList ++ rest) h' (cs + rm.cells) (ss + rm.slots)) : Rn w l R n0 F pc Ls S h cs ss := fun T locs X eT N => by
  subst hq hS
  obtain ⟨v, _, ⟨T', L', k', n'⟩, -, X', ⟨Lc, hQ, l', y', z'⟩, st⟩ := Jvm.LawKit.callS X K.x (y := y) K.ow (mvT K.z (K.hw _ i1)) (mvT K.z (K.hw _ i2)) (mvT K.z (K.hw _ i6)) (mvT K.z (K.hw _ i5)) hy (backOf (Q := fun v h L => Fr n0 L ∧ Q' v h) (W := W) M K.z (K.hw _ i5) (K.hw _ i6) hf hlo) (g := mkF w.m pc Ls (argsL.reverse ++ rest)) rfl (hsz.trans K.mx.symm) (argsL := argsL) (rest := rest) hlen rfl (by show 2 * 0 + _ ≤ _; rw [Nat.mul_zero, Nat.zero_add]; exact hW) (hb K.cd hd) (fun _ _ => ⟨rfl, eT, hc, hs⟩)
  dsimp only [Pt.U, Pt.locs, Pt.cells, Pt.slots] at X' l' y' z' st hQ
  subst l' y' z'
  obtain ⟨s₂, o, h1, r'⟩ := r v T'.heap hQ.2 T' _ X' rfl (Fr.app N hQ.1)
  exact ⟨s₂, o, st _ h1, r'⟩
theorem Rn.spec (K : Cx w Z a0 own bytes ml rt nm) {index W : Nat} {y : MethodName} {b : Addr} {argsL rest : List Value} {bz : ByteArray} {mz : Nat} {rm : Room} {Q' : Option Value → Heap → Prop}
    (hn : y.name = "<init>") (i1 : Jvm.Cond.methodLink own index y ∈ tables_1) (i4 : Jvm.Cond.instanceMethod y ∈ tables_1) (i5 : Jvm.Cond.code y bz mz none ∈ tables_1) (i6 : Jvm.Cond.initialized y.cls ∈ tables_1)
    (hy : y.cls ≠ "java/lang/invoke/MethodHandle" ∧ y.cls ≠ "java/lang/invoke/VarHandle") (M : Met l Z y bz mz none rm n0 [] (.ref b :: argsL).toArray h Q') (hf : rm.frames + 1 ≤ R.frames) (hlo : W + (mz + 11) + rm.locals ≤ R.locals)
    (hsz : Ls.size = ml) (hlen : ∀ sig, parseMethodDescriptor y.desc = some sig → argsL.length = sig.parameters.length) (hS : S = argsL.reverse ++ .ref b :: rest) (hW : (rest.map fun v => v.category).sum ≤ W)
    (hd : decode bytes pc = .ok (.invokespecial index, 3)) (hq : pc + 3 = q) (hc : cs + rm.cells ≤ R.cells) (hs : ss + rm.slots ≤ R.slots)
    (r : ∀ v h', Q' v h' → Rn w l R n0 F q Ls (v.toList ++ rest) h' (cs + rm.cells) (ss + rm.slots)) : Rn w l R n0 F pc Ls S h cs ss := fun T locs X eT N => by
  subst hq hS
  obtain ⟨v, _, ⟨T', L', k', n'⟩, -, X', ⟨Lc, hQ, l', y', z'⟩, st⟩ := X.specialBack K.x (y := y) hn K.ow (mvT K.z (K.hw _ i1)) (mvT K.z (K.hw _ i4)) (mvT K.z (K.hw _ i5)) hy (backOf (Q := fun v h L => Fr n0 L ∧ Q' v h) (W := W) M K.z (K.hw _ i5) (K.hw _ i6) hf hlo) (g := mkF w.m pc Ls (argsL.reverse ++ .ref b :: rest)) rfl (hsz.trans K.mx.symm) (Steps.refl _) (a := b) (argsL := argsL) (rest := rest) hlen rfl (by show 2 * 0 + _ ≤ _; rw [Nat.mul_zero, Nat.zero_add]; exact hW) (hb K.cd hd) (fun _ _ => ⟨rfl, eT, hc, hs⟩)
  dsimp only [Pt.U, Pt.locs, Pt.cells, Pt.slots] at X' l' y' z' st hQ
  subst l' y' z'
  obtain ⟨s₂, o, h1, r'⟩ := r v T'.heap hQ.2 T' _ X' rfl (Fr.app N hQ.1)
  exact ⟨s₂, o, st.trans h1, r'⟩
theorem Rn.initO (K : Cx w Z a0 own bytes ml rt nm) {index W : Nat} {b : Addr} (i1 : Jvm.Cond.methodLink own index Lib.objectInit ∈ tables_1) (i4 : Jvm.Cond.instanceMethod Lib.objectInit ∈ tables_1) (i5 : Jvm.Cond.code Lib.objectInit ⟨#[0xb1]⟩ 1 none ∈ tables_1)
    (hf : 1 ≤ R.frames) (hlo : W + 12 ≤ R.locals) (hsz : Ls.size = ml) (hW : (S.map fun v => v.category).sum ≤ W) (hd : decode bytes pc = .ok (.invokespecial index, 3)) (hq : pc + 3 = q) (r : Rn w l R n0 F q Ls S h cs ss) : Rn w l R n0 F pc Ls (.ref b :: S) h cs ss := fun T locs X eT N => by
  subst hq
  obtain ⟨T', X', e', st⟩ := Jvm.RoadKit.initO X K.x K.z K.ow (K.hw _ i1) (K.hw _ i4) (K.hw _ i5) eT (g := mkF w.m pc Ls (.ref b :: S)) rfl (hsz.trans K.mx.symm) rfl (hb K.cd hd) hf (W := W) (by show 2 * 0 + _ ≤ _; rw [Nat.mul_zero, Nat.zero_add]; exact hW) hlo
  obtain ⟨s₂, o, h1, r'⟩ := r T' locs X' e' N
  exact ⟨s₂, o, st _ h1, r'⟩
end OwnKit
section OwnKit2
variable {w : Wk} {l : Launch} {R : Room} {n0 : Nat} {F : Outcome → State → Prop} {Q : Option Value → Heap → Prop} {pc q : Nat} {Ls Ls' : Array Slot} {S : List Value} {h : Heap} {cs ss : Nat} {Z : State} {a0 : Array Value} {own : String} {bytes : ByteArray} {ml : Nat} {rt : Option FieldType} {nm : String}
theorem Rn.stepH {S' : List Value} (st : ∀ (T : State) (locs : List Loc), Stand w.p l w.e R w.s w.m w.a w.b w.t w.c T locs cs ss → T.heap = h → ∀ t, Steps w.p.tables w.e w.b (T.setTop (mkF w.m q Ls' S')) t → Steps w.p.tables w.e w.b (T.setTop (mkF w.m pc Ls S)) t)
    (k : Rn w l R n0 F q Ls' S' h cs ss) : Rn w l R n0 F pc Ls S h cs ss := fun T locs X eT N => by
  obtain ⟨s₂, o, h1, r⟩ := k T locs X eT N
  exact ⟨s₂, o, st T locs X eT _ h1, r⟩
/-! arrays, by Arv -/
section Arrays
variable {a : Addr} {k : ClassId} {z j : Int32} {vs : List Value} {d v : Value} {ty : FieldType}
theorem Rn.arraylength (K : Cx w Z a0 own bytes ml rt nm) (A : Arv Z h a k ty z vs d) (hd : decode bytes pc = .ok (.arraylength, 1)) (hq : pc + 1 = q) (r : Rn w l R n0 F q Ls (.int z :: S) h cs ss) : Rn w l R n0 F pc Ls (.ref a :: S) h cs ss := by
  subst hq
  obtain ⟨c, A1, A2, A3, A4, A5, A6⟩ := A
  refine Rn.stepH (fun T locs X eT t kt => ?_) r
  refine X.arraylength K.x (by rw [eT]; exact A1.1) (State.isArrayOf_alike K.z.alike A1.2.1) (g := mkF w.m pc Ls (.ref a :: S)) rfl rfl (hb K.cd hd) _ ?_
  rw [len_of A3 A4]
  exact kt
theorem Rn.iaload (K : Cx w Z a0 own bytes ml rt nm) (A : Arv Z h a k .int z vs d) (hj : ¬ j < 0 ∧ j < z) (hv : vs.getD j.toNatClampNeg d = v) (hd : decode bytes pc = .ok (.iaload, 1)) (hq : pc + 1 = q) (r : Rn w l R n0 F q Ls (v :: S) h cs ss) : Rn w l R n0 F pc Ls (.int j :: .ref a :: S) h cs ss := by
  subst hq
  obtain ⟨c, A1, A2, A3, A4, A5, A6⟩ := A
  exact Rn.stepH (fun T locs X eT t kt => X.iaload K.x (by rw [eT]; exact A1.1) (State.isArrayOf_alike K.z.alike A1.2.1) A1.2.2 (inb_of A3 hj) (A5.at (inb_of A3 hj) hv) (g := mkF w.m pc Ls (.int j :: .ref a :: S)) rfl rfl (hb K.cd hd) _ kt) r
theorem Rn.laload (K : Cx w Z a0 own bytes ml rt nm) (A : Arv Z h a k .long z vs d) (hj : ¬ j < 0 ∧ j < z) (hv : vs.getD j.toNatClampNeg d = v) (hd : decode bytes pc = .ok (.laload, 1)) (hq : pc + 1 = q) (r : Rn w l R n0 F q Ls (v :: S) h cs ss) : Rn w l R n0 F pc Ls (.int j :: .ref a :: S) h cs ss := by
  subst hq
  obtain ⟨c, A1, A2, A3, A4, A5, A6⟩ := A
  exact Rn.stepH (fun T locs X eT t kt => X.laload K.x (by rw [eT]; exact A1.1) (State.isArrayOf_alike K.z.alike A1.2.1) A1.2.2 (inb_of A3 hj) (A5.at (inb_of A3 hj) hv) (g := mkF w.m pc Ls (.int j :: .ref a :: S)) rfl rfl (hb K.cd hd) _ kt) r
theorem Rn.caload (K : Cx w Z a0 own bytes ml rt nm) (A : Arv Z h a k .char z vs d) (hj : ¬ j < 0 ∧ j < z) (hv : vs.getD j.toNatClampNeg d = v) (hd : decode bytes pc = .ok (.caload, 1)) (hq : pc + 1 = q) (r : Rn w l R n0 F q Ls (v :: S) h cs ss) : Rn w l R n0 F pc Ls (.int j :: .ref a :: S) h cs ss := by
  subst hq
  obtain ⟨c, A1, A2, A3, A4, A5, A6⟩ := A
  exact Rn.stepH (fun T locs X eT t kt => X.caload K.x (by rw [eT]; exact A1.1) (State.isArrayOf_alike K.z.alike A1.2.1) A1.2.2 (inb_of A3 hj) (A5.at (inb_of A3 hj) hv) (g := mkF w.m pc Ls (.int j :: .ref a :: S)) rfl rfl (hb K.cd hd) _ kt) r
theorem Rn.baloadZ (K : Cx w Z a0 own bytes ml rt nm) (A : Arv Z h a k .boolean z vs d) (hj : ¬ j < 0 ∧ j < z) (hv : vs.getD j.toNatClampNeg d = v) (hd : decode bytes pc = .ok (.baload, 1)) (hq : pc + 1 = q) (r : Rn w l R n0 F q Ls (v :: S) h cs ss) : Rn w l R n0 F pc Ls (.int j :: .ref a :: S) h cs ss := by
  subst hq
  obtain ⟨c, A1, A2, A3, A4, A5, A6⟩ := A
  exact Rn.stepH (fun T locs X eT t kt => X.baloadBooleans K.x (by rw [eT]; exact A1.1) (State.isArrayOf_alike K.z.alike A1.2.1) A1.2.2 (inb_of A3 hj) (A5.at (inb_of A3 hj) hv) (g := mkF w.m pc Ls (.int j :: .ref a :: S)) rfl rfl (hb K.cd hd) _ kt) r
theorem Rn.baloadB (K : Cx w Z a0 own bytes ml rt nm) (A : Arv Z h a k .byte z vs d) (hj : ¬ j < 0 ∧ j < z) (hv : vs.getD j.toNatClampNeg d = v) (hd : decode bytes pc = .ok (.baload, 1)) (hq : pc + 1 = q) (r : Rn w l R n0 F q Ls (v :: S) h cs ss) : Rn w l R n0 F pc Ls (.int j :: .ref a :: S) h cs ss := by
  subst hq
  obtain ⟨c, A1, A2, A3, A4, A5, A6⟩ := A
  exact Rn.stepH (fun T locs X eT t kt => X.baloadBytes K.x (by rw [eT]; exact A1.1) (State.isArrayOf_alike K.z.alike A1.2.1) A1.2.2 (inb_of A3 hj) (A5.at (inb_of A3 hj) hv) (g := mkF w.m pc Ls (.int j :: .ref a :: S)) rfl rfl (hb K.cd hd) _ kt) r
theorem Rn.aaload (K : Cx w Z a0 own bytes ml rt nm) (A : Arv Z h a k ty z vs d) (hty : ty.isReference = true) (hj : ¬ j < 0 ∧ j < z) (hv : vs.getD j.toNatClampNeg d = v) (hd : decode bytes pc = .ok (.aaload, 1)) (hq : pc + 1 = q) (r : Rn w l R n0 F q Ls (v :: S) h cs ss) : Rn w l R n0 F pc Ls (.int j :: .ref a :: S) h cs ss := by
  subst hq
  obtain ⟨c, A1, A2, A3, A4, A5, A6⟩ := A
  exact Rn.stepH (fun T locs X eT t kt => X.aaload K.x (by rw [eT]; exact A1.1) (State.isArrayOf_alike K.z.alike A1.2.1) hty A1.2.2 (inb_of A3 hj) (A5.at (inb_of A3 hj) hv) (g := mkF w.m pc Ls (.int j :: .ref a :: S)) rfl rfl (hb K.cd hd) _ kt) r
theorem Rn.iastore (K : Cx w Z a0 own bytes ml rt nm) (A : Arv Z h a k .int z vs d) {x : Int32} (hj : ¬ j < 0 ∧ j < z) {i : Nat} (hi : j.toNatClampNeg = i) (hi' : i < vs.length) (hg : n0 ≤ a) (hd : decode bytes pc = .ok (.iastore, 1)) (hq : pc + 1 = q)
    (r : ∀ h', Wr h h' a i (.int x) → Arv Z h' a k .int z (vs.set i (.int x)) d → Rn w l R n0 F q Ls S h' cs ss) : Rn w l R n0 F pc Ls (.int x :: .int j :: .ref a :: S) h cs ss := fun T locs X eT N => by
  subst hq hi
  obtain ⟨c, A1, A2, A3, A4, A5, A6⟩ := A
  obtain ⟨T', h', X', e', W, st⟩ := stI X K.x K.z eT A1 (inb_of A3 hj) (g := mkF w.m pc Ls (.int x :: .int j :: .ref a :: S)) rfl rfl (hb K.cd hd)
  obtain ⟨s₂, o, h1, r'⟩ := r h' W (Arv.set A1 A2 A3 A4 A5 A6 rfl W _ rfl hi') T' _ X' e' (Fr.snoc X' N hg)
  exact ⟨s₂, o, st _ h1, r'⟩
theorem Rn.lastore (K : Cx w Z a0 own bytes ml rt nm) (A : Arv Z h a k .long z vs d) {x : Int64} (hj : ¬ j < 0 ∧ j < z) {i : Nat} (hi : j.toNatClampNeg = i) (hi' : i < vs.length) (hg : n0 ≤ a) (hd : decode bytes pc = .ok (.lastore, 1)) (hq : pc + 1 = q)
    (r : ∀ h', Wr h h' a i (.long x) → Arv Z h' a k .long z (vs.set i (.long x)) d → Rn w l R n0 F q Ls S h' cs ss) : Rn w l R n0 F pc Ls (.long x :: .int j :: .ref a :: S) h cs ss := fun T locs X eT N => by
  subst hq hi
  obtain ⟨c, A1, A2, A3, A4, A5, A6⟩ := A
  obtain ⟨T', h', X', e', W, st⟩ := stJ X K.x K.z eT A1 (inb_of A3 hj) (g := mkF w.m pc Ls (.long x :: .int j :: .ref a :: S)) rfl rfl (hb K.cd hd)
  obtain ⟨s₂, o, h1, r'⟩ := r h' W (Arv.set A1 A2 A3 A4 A5 A6 rfl W _ rfl hi') T' _ X' e' (Fr.snoc X' N hg)
  exact ⟨s₂, o, st _ h1, r'⟩
theorem Rn.castore (K : Cx w Z a0 own bytes ml rt nm) (A : Arv Z h a k .char z vs d) {x : Int32} (hj : ¬ j < 0 ∧ j < z) {i : Nat} (hi : j.toNatClampNeg = i) (hi' : i < vs.length) (hg : n0 ≤ a) (hd : decode bytes pc = .ok (.castore, 1)) (hq : pc + 1 = q)
    (r : ∀ h', Wr h h' a i (.int (nar .char x)) → Arv Z h' a k .char z (vs.set i (.int (nar .char x))) d → Rn w l R n0 F q Ls S h' cs ss) : Rn w l R n0 F pc Ls (.int x :: .int j :: .ref a :: S) h cs ss := fun T locs X eT N => by
  subst hq hi
  obtain ⟨c, A1, A2, A3, A4, A5, A6⟩ := A
  obtain ⟨T', h', X', e', W, st⟩ := Jvm.RoadKit.stC X K.x K.z eT A1 (inb_of A3 hj) (g := mkF w.m pc Ls (.int x :: .int j :: .ref a :: S)) rfl rfl (hb K.cd hd)
  obtain ⟨s₂, o, h1, r'⟩ := r h' W (Arv.set A1 A2 A3 A4 A5 A6 (fits_nar_char _) W _ rfl hi') T' _ X' e' (Fr.snoc X' N hg)
  exact ⟨s₂, o, st _ h1, r'⟩
theorem Rn.bastoreZ (K : Cx w Z a0 own bytes ml rt nm) (A : Arv Z h a k .boolean z vs d) {x : Int32} (hj : ¬ j < 0 ∧ j < z) {i : Nat} (hi : j.toNatClampNeg = i) (hi' : i < vs.length) (hg : n0 ≤ a) (hd : decode bytes pc = .ok (.bastore, 1)) (hq : pc + 1 = q)
    (r : ∀ h', Wr h h' a i (.int (nar .boolean x)) → Arv Z h' a k .boolean z (vs.set i (.int (nar .boolean x))) d → Rn w l R n0 F q Ls S h' cs ss) : Rn w l R n0 F pc Ls (.int x :: .int j :: .ref a :: S) h cs ss := fun T locs X eT N => by
  subst hq hi
  obtain ⟨c, A1, A2, A3, A4, A5, A6⟩ := A
  obtain ⟨T', h', X', e', W, st⟩ := stZ X K.x K.z eT A1 (inb_of A3 hj) (g := mkF w.m pc Ls (.int x :: .int j :: .ref a :: S)) rfl rfl (hb K.cd hd)
  obtain ⟨s₂, o, h1, r'⟩ := r h' W (Arv.set A1 A2 A3 A4 A5 A6 (fits_nar_bool _) W _ rfl hi') T' _ X' e' (Fr.snoc X' N hg)
  exact ⟨s₂, o, st _ h1, r'⟩
theorem Rn.aastore (K : Cx w Z a0 own bytes ml rt nm) (A : Arv Z h a k ty z vs d) (hty : ty.isReference = true) (FF : ∀ c : Cell, Arr Z h a c ty → c.cls = k → Sto Z h a v) (hfit : fits ty v = true) (hj : ¬ j < 0 ∧ j < z) {i : Nat} (hi : j.toNatClampNeg = i) (hi' : i < vs.length) (hg : n0 ≤ a) (hd : decode bytes pc = .ok (.aastore, 1)) (hq : pc + 1 = q)
    (r : ∀ h', Wr h h' a i v → Arv Z h' a k ty z (vs.set i v) d → Rn w l R n0 F q Ls S h' cs ss) : Rn w l R n0 F pc Ls (v :: .int j :: .ref a :: S) h cs ss := fun T locs X eT N => by
  subst hq hi
  obtain ⟨c, A1, A2, A3, A4, A5, A6⟩ := A
  obtain ⟨T', h', X', e', W, st⟩ := Jvm.RoadKit.stR X K.x K.z eT A1 (inb_of A3 hj) hty (FF c A1 A2) (g := mkF w.m pc Ls (v :: .int j :: .ref a :: S)) rfl rfl (hb K.cd hd)
  obtain ⟨s₂, o, h1, r'⟩ := r h' W (Arv.set A1 A2 A3 A4 A5 A6 hfit W _ rfl hi') T' _ X' e' (Fr.snoc X' N hg)
  exact ⟨s₂, o, st _ h1, r'⟩
theorem Rn.newR (K : Cx w Z a0 own bytes ml rt nm) {i cap : Nat} {C : String} {x : Int32} (hi : Jvm.Cond.classLink own i C ∈ tables_1) (ho : Jvm.Cond.arrayOver (.object C) ∈ tables_1) (hn : ¬ x < 0) (hcap : x.toNatClampNeg ≤ cap) (hb8 : cap * 8 ≤ 536870912) (hc : cs + 1 ≤ R.cells) (hs : ss + cap ≤ R.slots) {ad : String} (had : "[" ++ (FieldType.object C).toString = ad) (hd : decode bytes pc = .ok (.anewarray i, 3)) (hq : pc + 3 = q)
    (r : ∀ b h' k, b = h.size → Ext h h' → Arv Z h' b k (.object C) x [] .null → Exa Z h' b ad → Ovr Z k C → Rn w l R n0 F q Ls (.ref b :: S) h' (cs + 1) (ss + cap)) : Rn w l R n0 F pc Ls (.int x :: S) h cs ss := fun T locs X eT N => by
  subst hq
  obtain ⟨T', h', k, X', e', E, A, EA, O, st⟩ := newRE X K.x K.z K.ow (K.hw _ hi) (K.hw _ ho) eT (g := mkF w.m pc Ls (.int x :: S)) rfl (hb K.cd hd) rfl hn hcap hb8 hc hs had
  obtain ⟨s₂, o, h1, r'⟩ := r _ h' k rfl E (Arv.new A hn) EA O T' _ X' e' N
  exact ⟨s₂, o, st _ h1, r'⟩
end Arrays
/-! switches -/
theorem own_lsw {tb : Tables} [Ours tb] {e : Env} {below : List Frame} {T target : State} {m : MethodId} {c : Code} {g : JFrame} (h : At T m c below) (hx : tb.exec = Jvm.exec) (hg : g.method = m) {dflt : Int} {ps : Array (Int × Int)} {len : Nat} {o : Int} {pc0 pc' : Nat} (hpc : g.pc = pc0) (hd : decode c.code g.pc = .ok (.lookupswitch dflt ps, len)) {i : Int32} {rest : List Value} (hs : g.stack = .int i :: rest)
    (hsort : (ps.toList.zip (ps.toList.drop 1)).all (fun (a, next) => a.1 < next.1) = true) (hoff : lookupswitch.offset ps.toList dflt i.toInt = o) (ho : 0 ≤ (pc0 : Int) + o) (hp : ((pc0 : Int) + o).toNat = pc')
    (hr : Steps tb e below (T.setTop { g with pc := pc', stack := rest }) target) : Steps tb e below (T.setTop g) target := by
  subst hg hpc hp hoff
  jvm_step h [h.top, hx, hd, hs, ho, lookupswitch.wp_chain, hsort]
  first | exact hr | exact ⟨by simpa using hsort, hr⟩
theorem Rn.lsw (K : Cx w Z a0 own bytes ml rt nm) {dflt o : Int} {ps : Array (Int × Int)} {len : Nat} {x : Int32} (hd : decode bytes pc = .ok (.lookupswitch dflt ps, len)) (hsort : (ps.toList.zip (ps.toList.drop 1)).all (fun (a, next) => a.1 < next.1) = true) (hoff : lookupswitch.offset ps.toList dflt x.toInt = o) (ho : 0 ≤ (pc : Int) + o) (hq : ((pc : Int) + o).toNat = q) (r : Rn w l R n0 F q Ls S h cs ss) : Rn w l R n0 F pc Ls (.int x :: S) h cs ss :=
  Rn.step (fun T locs X t k => own_lsw X.here K.x rfl rfl (hb K.cd hd) rfl hsort hoff ho hq k) r
theorem Rn.tswIn (K : Cx w Z a0 own bytes ml rt nm) {dflt low high o : Int} {offs : Array Int} {len : Nat} {x : Int32} (hd : decode bytes pc = .ok (.tableswitch dflt low high offs, len)) (hin : ¬ (x.toInt < low ∨ x.toInt > high)) (hoff : offs[(x.toInt - low).toNat]? = some o) (ho : 0 ≤ (pc : Int) + o) (hq : ((pc : Int) + o).toNat = q) (r : Rn w l R n0 F q Ls S h cs ss) : Rn w l R n0 F pc Ls (.int x :: S) h cs ss :=
  Rn.step (fun T locs X t k => XS.tswIn X.here K.x rfl rfl (hb K.cd hd) rfl hin hoff ho hq k) r
theorem Rn.tswOut (K : Cx w Z a0 own bytes ml rt nm) {dflt low high : Int} {offs : Array Int} {len : Nat} {x : Int32} (hd : decode bytes pc = .ok (.tableswitch dflt low high offs, len)) (hout : x.toInt < low ∨ x.toInt > high) (ho : 0 ≤ (pc : Int) + dflt) (hq : ((pc : Int) + dflt).toNat = q) (r : Rn w l R n0 F q Ls S h cs ss) : Rn w l R n0 F pc Ls (.int x :: S) h cs ss :=
  Rn.step (fun T locs X t k => XS.tswOut X.here K.x rfl rfl (hb K.cd hd) rfl hout ho hq k) r
/-! more calls -/
theorem Rn.virtUp (K : Cx w Z a0 own bytes ml rt nm) {index W : Nat} {y z : MethodName} {C owner : String} {b : Addr} {argsL rest : List Value} {bz : ByteArray} {mz : Nat} {rz : Option FieldType} {rm : Room} {Q' : Option Value → Heap → Prop}
    (i1 : Jvm.Cond.methodLink own index y ∈ tables_1) (i2 : Jvm.Cond.sameMethod y.cls owner y.name y.desc ∈ tables_1) (i2' : Jvm.Cond.declares ⟨owner, y.name, y.desc⟩ ∈ tables_1) (i3 : Jvm.Cond.selects C y z ∈ tables_1) (i4 : Jvm.Cond.instanceMethod z ∈ tables_1) (i5 : Jvm.Cond.code z bz mz rz ∈ tables_1) (i6 : Jvm.Cond.initialized z.cls ∈ tables_1)
    (hy : owner ≠ "java/lang/invoke/MethodHandle" ∧ owner ≠ "java/lang/invoke/VarHandle") (M : Met l Z z bz mz rz rm n0 [] (.ref b :: argsL).toArray h Q') (E : Exa Z h b C) (hf : rm.frames + 1 ≤ R.frames) (hlo : W + (mz + 11) + rm.locals ≤ R.locals)
    (hsz : Ls.size = ml) (hlen : ∀ sig, parseMethodDescriptor y.desc = some sig → argsL.length = sig.parameters.length) (hS : S = argsL.reverse ++ .ref b :: rest) (hW : (rest.map fun v => v.category).sum ≤ W)
    (hd : decode bytes pc = .ok (.invokevirtual index, 3)) (hq : pc + 3 = q) (hc : cs + rm.cells ≤ R.cells) (hs : ss + rm.slots ≤ R.slots)
    (r : ∀ v h', Q' v h' → Rn w l R n0 F q Ls (v.toList ++ rest) h' (cs + rm.cells) (ss + rm.slots)) : Rn w l R n0 F pc Ls S h cs ss := fun T locs X eT N => by
  subst hq hS
  obtain ⟨cq, kq, qa, qb, qc⟩ := isOf K.z eT E
  obtain ⟨v, _, ⟨T', L', k', n'⟩, -, X', ⟨Lc, hQ, l', y', z'⟩, st⟩ := X.virtualBackUp K.x (x := y) (y := z) K.ow (mvT K.z (K.hw _ i1)) (mvT K.z (K.hw _ i2)) (mvT K.z (K.hw _ i2')) hy (mvT K.z (K.hw _ i3)) (mvT K.z (K.hw _ i4)) (backOf (Q := fun v h L => Fr n0 L ∧ Q' v h) (W := W) M K.z (K.hw _ i5) (K.hw _ i6) hf hlo) qa qc (g := mkF w.m pc Ls (argsL.reverse ++ .ref b :: rest)) rfl (hsz.trans K.mx.symm) (Steps.refl _) (argsL := argsL) (rest := rest) hlen rfl (by show 2 * 0 + _ ≤ _; rw [Nat.mul_zero, Nat.zero_add]; exact hW) (hb K.cd hd) (fun _ _ => ⟨rfl, eT, hc, hs⟩)
  dsimp only [Pt.U, Pt.locs, Pt.cells, Pt.slots] at X' l' y' z' st hQ
  subst l' y' z'
  obtain ⟨s₂, o, h1, r'⟩ := r v T'.heap hQ.2 T' _ X' rfl (Fr.app N hQ.1)
  exact ⟨s₂, o, st.trans h1, r'⟩
theorem Rn.priv (K : Cx w Z a0 own bytes ml rt nm) {index W : Nat} {y : MethodName} {C : String} {b : Addr} {argsL rest : List Value} {bz : ByteArray} {mz : Nat} {rz : Option FieldType} {rm : Room} {Q' : Option Value → Heap → Prop}
    (i1 : Jvm.Cond.methodLink own index y ∈ tables_1) (i4 : Jvm.Cond.instanceMethod y ∈ tables_1) (i3 : Jvm.Cond.selects y.cls y y ∈ tables_1) (i7 : Jvm.Cond.privateMethod y ∈ tables_1) (i5 : Jvm.Cond.code y bz mz rz ∈ tables_1) (i6 : Jvm.Cond.initialized y.cls ∈ tables_1)
    (hy : y.cls ≠ "java/lang/invoke/MethodHandle" ∧ y.cls ≠ "java/lang/invoke/VarHandle") (M : Met l Z y bz mz rz rm n0 [] (.ref b :: argsL).toArray h Q') (E : Exa Z h b C) (hf : rm.frames + 1 ≤ R.frames) (hlo : W + (mz + 11) + rm.locals ≤ R.locals)
    (hsz : Ls.size = ml) (hlen : ∀ sig, parseMethodDescriptor y.desc = some sig → argsL.length = sig.parameters.length) (hS : S = argsL.reverse ++ .ref b :: rest) (hW : (rest.map fun v => v.category).sum ≤ W)
    (hd : decode bytes pc = .ok (.invokevirtual index, 3)) (hq : pc + 3 = q) (hc : cs + rm.cells ≤ R.cells) (hs : ss + rm.slots ≤ R.slots)
    (r : ∀ v h', Q' v h' → Rn w l R n0 F q Ls (v.toList ++ rest) h' (cs + rm.cells) (ss + rm.slots)) : Rn w l R n0 F pc Ls S h cs ss := fun T locs X eT N => by
  subst hq hS
  obtain ⟨cq, q1, q2⟩ := E.cell
  obtain ⟨v, _, ⟨T', L', k', n'⟩, -, X', ⟨Lc, hQ, l', y', z'⟩, st⟩ := X.privateBack K.x (y := y) K.ow (mvT K.z (K.hw _ i1)) (mvT K.z (K.hw _ i4)) (mvT K.z (K.hw _ i3)) (Cond.privateMethod_at (mvP K.z (K.hw _ i7) (args := #[]))) (mvT K.z (K.hw _ i5)) hy (backOf (Q := fun v h L => Fr n0 L ∧ Q' v h) (W := W) M K.z (K.hw _ i5) (K.hw _ i6) hf hlo) (g := mkF w.m pc Ls (argsL.reverse ++ .ref b :: rest)) rfl (hsz.trans K.mx.symm) (Steps.refl _) (a := b) (by rw [eT]; exact q1) q2 (argsL := argsL) (rest := rest) hlen rfl (by show 2 * 0 + _ ≤ _; rw [Nat.mul_zero, Nat.zero_add]; exact hW) (hb K.cd hd) (fun _ _ => ⟨rfl, eT, hc, hs⟩)
  dsimp only [Pt.U, Pt.locs, Pt.cells, Pt.slots] at X' l' y' z' st hQ
  subst l' y' z'
  obtain ⟨s₂, o, h1, r'⟩ := r v T'.heap hQ.2 T' _ X' rfl (Fr.app N hQ.1)
  exact ⟨s₂, o, st.trans h1, r'⟩
theorem Rn.castY (K : Cx w Z a0 own bytes ml rt nm) {i : Nat} {C : String} {a : Addr} (hi : Jvm.Cond.classLink own i C ∈ tables_1) (I : Ins Z h a C true) (hd : decode bytes pc = .ok (.checkcast i, 3)) (hq : pc + 3 = q) (r : Rn w l R n0 F q Ls (.ref a :: S) h cs ss) : Rn w l R n0 F pc Ls (.ref a :: S) h cs ss := fun T locs X eT N => by
  subst hq
  obtain ⟨T', X', e', st⟩ := Jvm.RoadKit.castY X K.x K.z K.ow (K.hw _ hi) eT I (g := mkF w.m pc Ls (.ref a :: S)) rfl rfl (hb K.cd hd)
  obtain ⟨s₂, o, h1, r'⟩ := r T' locs X' e' N
  exact ⟨s₂, o, st _ h1, r'⟩
end OwnKit2
section OwnKit3
variable {w : Wk} {l : Launch} {R : Room} {n0 : Nat} {F : Outcome → State → Prop} {Q : Option Value → Heap → Prop} {pc q : Nat} {Ls Ls' : Array Slot} {S : List Value} {h : Heap} {cs ss : Nat} {Z : State} {a0 : Array Value} {own : String} {bytes : ByteArray} {ml : Nat} {rt : Option FieldType} {nm : String}
/-- a callee that a law of the library pays -/
def Pay (w : Wk) (l : Launch) (R : Room) (y : MethodName) (len W : Nat) (as' : Array Value) (h : Heap) (kc ks : Nat) (Qf : Option Value → Heap → List Loc → Prop) : Prop :=
  Back l R w.p w.e w.b w.s w.a y len W (fun P a => a = as' ∧ P.U.heap = h ∧ P.cells + kc ≤ R.cells ∧ P.slots + ks ≤ R.slots) (fun P _ v B => ∃ L, Qf v B.U.heap L ∧ B.locs = P.locs ++ L ∧ B.cells = P.cells + kc ∧ B.slots = P.slots + ks)
theorem Rn.virtB (K : Cx w Z a0 own bytes ml rt nm) {index W kc ks : Nat} {y z : MethodName} {C : String} {b : Addr} {argsL rest : List Value} {Qf : Option Value → Heap → List Loc → Prop}
    (i1 : Jvm.Cond.methodLink own index y ∈ tables_1) (i2 : Jvm.Cond.declares y ∈ tables_1) (nf : NotFace w.s y) (i3 : Jvm.Cond.selects C y z ∈ tables_1) (i4 : Jvm.Cond.instanceMethod z ∈ tables_1)
    (hy : y.cls ≠ "java/lang/invoke/MethodHandle" ∧ y.cls ≠ "java/lang/invoke/VarHandle") (M : Pay w l R z 3 W (.ref b :: argsL).toArray h kc ks Qf) (hF : ∀ v h' L, Qf v h' L → Fr n0 L) (E : Exa Z h b C)
    (hsz : Ls.size = ml) (hlen : ∀ sig, parseMethodDescriptor y.desc = some sig → argsL.length = sig.parameters.length) (hS : S = argsL.reverse ++ .ref b :: rest) (hW : (rest.map fun v => v.category).sum ≤ W)
    (hd : decode bytes pc = .ok (.invokevirtual index, 3)) (hq : pc + 3 = q) (hc : cs + kc ≤ R.cells) (hs : ss + ks ≤ R.slots)
    (r : ∀ v h' L, Qf v h' L → Rn w l R n0 F q Ls (v.toList ++ rest) h' (cs + kc) (ss + ks)) : Rn w l R n0 F pc Ls S h cs ss := fun T locs X eT N => by
  subst hq hS
  obtain ⟨cq, kq, qa, qb, qc⟩ := isOf K.z eT E
  obtain ⟨v, _, ⟨T', L', k', n'⟩, -, X', ⟨Lc, hQ, l', y', z'⟩, st⟩ := X.virtualBack K.x (y := y) (z := z) K.ow (mvT K.z (K.hw _ i1)) (mvT K.z (K.hw _ i2)) nf (mvT K.z (K.hw _ i3)) (mvT K.z (K.hw _ i4)) hy M qa qc (g := mkF w.m pc Ls (argsL.reverse ++ .ref b :: rest)) rfl (hsz.trans K.mx.symm) (Steps.refl _) (argsL := argsL) (rest := rest) hlen rfl (by show 2 * 0 + _ ≤ _; rw [Nat.mul_zero, Nat.zero_add]; exact hW) (hb K.cd hd) (fun _ _ => ⟨rfl, eT, hc, hs⟩)
  dsimp only [Pt.U, Pt.locs, Pt.cells, Pt.slots] at X' l' y' z' st hQ
  subst l' y' z'
  obtain ⟨s₂, o, h1, r'⟩ := r v T'.heap Lc hQ T' _ X' rfl (Fr.app N (hF _ _ _ hQ))
  exact ⟨s₂, o, st.trans h1, r'⟩
theorem Rn.specB (K : Cx w Z a0 own bytes ml rt nm) {index W kc ks : Nat} {y : MethodName} {b : Addr} {argsL rest : List Value} {bz : ByteArray} {mz : Nat} {Qf : Option Value → Heap → List Loc → Prop}
    (hn : y.name = "<init>") (i1 : Jvm.Cond.methodLink own index y ∈ tables_1) (i4 : Jvm.Cond.instanceMethod y ∈ tables_1) (i5 : Jvm.Cond.code y bz mz none ∈ tables_1)
    (hy : y.cls ≠ "java/lang/invoke/MethodHandle" ∧ y.cls ≠ "java/lang/invoke/VarHandle") (M : Pay w l R y 3 W (.ref b :: argsL).toArray h kc ks Qf) (hF : ∀ v h' L, Qf v h' L → Fr n0 L)
    (hsz : Ls.size = ml) (hlen : ∀ sig, parseMethodDescriptor y.desc = some sig → argsL.length = sig.parameters.length) (hS : S = argsL.reverse ++ .ref b :: rest) (hW : (rest.map fun v => v.category).sum ≤ W)
    (hd : decode bytes pc = .ok (.invokespecial index, 3)) (hq : pc + 3 = q) (hc : cs + kc ≤ R.cells) (hs : ss + ks ≤ R.slots)
    (r : ∀ v h' L, Qf v h' L → Rn w l R n0 F q Ls (v.toList ++ rest) h' (cs + kc) (ss + ks)) : Rn w l R n0 F pc Ls S h cs ss := fun T locs X eT N => by
  subst hq hS
  obtain ⟨v, _, ⟨T', L', k', n'⟩, -, X', ⟨Lc, hQ, l', y', z'⟩, st⟩ := X.specialBack K.x (y := y) hn K.ow (mvT K.z (K.hw _ i1)) (mvT K.z (K.hw _ i4)) (mvT K.z (K.hw _ i5)) hy M (g := mkF w.m pc Ls (argsL.reverse ++ .ref b :: rest)) rfl (hsz.trans K.mx.symm) (Steps.refl _) (a := b) (argsL := argsL) (rest := rest) hlen rfl (by show 2 * 0 + _ ≤ _; rw [Nat.mul_zero, Nat.zero_add]; exact hW) (hb K.cd hd) (fun _ _ => ⟨rfl, eT, hc, hs⟩)
  dsimp only [Pt.U, Pt.locs, Pt.cells, Pt.slots] at X' l' y' z' st hQ
  subst l' y' z'
  obtain ⟨s₂, o, h1, r'⟩ := r v T'.heap Lc hQ T' _ X' rfl (Fr.app N (hF _ _ _ hQ))
  exact ⟨s₂, o, st.trans h1, r'⟩
/-! arrays of arrays, clone, constants of floats, instanceof -/
theorem Rn.newRA (K : Cx w Z a0 own bytes ml rt nm) {i cap : Nat} {C : String} {ty : FieldType} {x : Int32} (hC : (FieldType.array ty).toString = C) (hi : Jvm.Cond.classLink own i C ∈ tables_1) (ho : Jvm.Cond.arrayOver (.array ty) ∈ tables_1) (hn : ¬ x < 0) (hcap : x.toNatClampNeg ≤ cap) (hb8 : cap * 8 ≤ 536870912) (hc : cs + 1 ≤ R.cells) (hs : ss + cap ≤ R.slots) {ad : String} (had : "[" ++ C = ad) (hd : decode bytes pc = .ok (.anewarray i, 3)) (hq : pc + 3 = q)
    (r : ∀ b h' k, b = h.size → Ext h h' → Arv Z h' b k (.array ty) x [] .null → Exa Z h' b ad → OvrA Z k ty C → Rn w l R n0 F q Ls (.ref b :: S) h' (cs + 1) (ss + cap)) : Rn w l R n0 F pc Ls (.int x :: S) h cs ss := fun T locs X eT N => by
  subst hq
  obtain ⟨T', h', k, X', e', E, A, EA, O, st⟩ := Jvm.RoadKit.newRA X K.x K.z K.ow hC (K.hw _ hi) (K.hw _ ho) eT (g := mkF w.m pc Ls (.int x :: S)) rfl (hb K.cd hd) rfl hn hcap hb8 hc hs had
  obtain ⟨s₂, o, h1, r'⟩ := r _ h' k rfl E (Arv.new A hn) EA O T' _ X' e' N
  exact ⟨s₂, o, st _ h1, r'⟩
theorem Rn.clone (K : Cx w Z a0 own bytes ml rt nm) {i W cap : Nat} {ad : String} {a : Addr} {k : ClassId} {ty : FieldType} {z : Int32} {vs : List Value} {d : Value}
    (w1 : Jvm.Cond.methodLink own i ⟨ad, "clone", "()Ljava/lang/Object;"⟩ ∈ tables_1) (w2 : Jvm.Cond.sameMethod ad "java/lang/Object" "clone" "()Ljava/lang/Object;" ∈ tables_1) (w3 : Jvm.Cond.native ⟨"java/lang/Object", "clone", "()Ljava/lang/Object;"⟩ ∈ tables_1) (w4 : Jvm.Cond.instanceMethod ⟨"java/lang/Object", "clone", "()Ljava/lang/Object;"⟩ ∈ tables_1)
    (w5 : Jvm.Cond.selects ad ⟨ad, "clone", "()Ljava/lang/Object;"⟩ ⟨"java/lang/Object", "clone", "()Ljava/lang/Object;"⟩ ∈ tables_1) (w6 : Jvm.Cond.castable ad "java/lang/Cloneable" ∈ tables_1) (A : Arv Z h a k ty z vs d) (E : Exa Z h a ad) (hsz : Ls.size = ml) (hf : 1 ≤ R.frames) (hW : (S.map fun v => v.category).sum ≤ W) (hl : W + 14 ≤ R.locals) (hcap : z.toNatClampNeg ≤ cap) (hc : cs + 1 ≤ R.cells) (hs : ss + cap ≤ R.slots)
    (hd : decode bytes pc = .ok (.invokevirtual i, 3)) (hq : pc + 3 = q) (r : ∀ b h', b = h.size → Ext h h' → Arv Z h' b k ty z vs d → Exa Z h' b ad → Rn w l R n0 F q Ls (.ref b :: S) h' (cs + 1) (ss + cap)) : Rn w l R n0 F pc Ls (.ref a :: S) h cs ss := fun T locs X eT N => by
  subst hq
  obtain ⟨cl, A1, A2, A3, A4, A5, A6⟩ := A
  have FC : FitC Z cl := fitC_of A1 fun i hi v hv => by rw [A5 i hi] at hv; cases hv; exact A6 i hi
  obtain ⟨T', h', X', e', ex, A', E', st⟩ := cloneA X K.x K.z K.ow (K.hw _ w1) (K.hw _ w2) (K.hw _ w3) (K.hw _ w4) (K.hw _ w5) (K.hw _ w6) eT A1 E FC (g := mkF w.m pc Ls (.ref a :: S)) rfl (hsz.trans K.mx.symm) rfl (hb K.cd hd) hf (W := W) (by show 2 * 0 + _ ≤ _; rw [Nat.mul_zero, Nat.zero_add]; exact hW) hl (by rw [A3]; exact hcap) hc hs
  obtain ⟨s₂, o, h1, r'⟩ := r _ h' rfl ex ⟨cloneOf cl, A', A2, A3, A4, A5, A6⟩ E' T' _ X' e' N
  exact ⟨s₂, o, st _ h1, r'⟩
theorem Rn.ldcF (K : Cx w Z a0 own bytes ml rt nm) {i : Nat} (v : UInt32) (hi : Jvm.Cond.constantFloat own i v ∈ tables_1) (hd : decode bytes pc = .ok (.ldc i, 2)) (hq : pc + 2 = q) (r : Rn w l R n0 F q Ls (.float v :: S) h cs ss) : Rn w l R n0 F pc Ls S h cs ss := by
  subst hq; exact Rn.step (fun T locs X t k => X.ldcFloatC K.x K.ow (mvT K.z (K.hw _ hi)) (g := mkF w.m pc Ls S) rfl (hb K.cd hd) _ k) r
theorem Rn.instY (K : Cx w Z a0 own bytes ml rt nm) {i : Nat} {C : String} {a : Addr} (hi : Jvm.Cond.classLink own i C ∈ tables_1) (I : Ins Z h a C true) (hd : decode bytes pc = .ok (.instanceof i, 3)) (hq : pc + 3 = q) (r : Rn w l R n0 F q Ls (.int 1 :: S) h cs ss) : Rn w l R n0 F pc Ls (.ref a :: S) h cs ss := fun T locs X eT N => by
  subst hq
  obtain ⟨T', X', e', st⟩ := Jvm.RoadKit.instY X K.x K.z K.ow (K.hw _ hi) eT I (g := mkF w.m pc Ls (.ref a :: S)) rfl rfl (hb K.cd hd)
  obtain ⟨s₂, o, h1, r'⟩ := r T' locs X' e' N
  exact ⟨s₂, o, st _ h1, r'⟩
end OwnKit3
section OwnKit4
variable {w : Wk} {l : Launch} {R : Room} {n0 : Nat} {F : Outcome → State → Prop} {Q : Option Value → Heap → Prop} {pc q : Nat} {Ls Ls' : Array Slot} {S : List Value} {h : Heap} {cs ss : Nat} {Z : State} {a0 : Array Value} {own : String} {bytes : ByteArray} {ml : Nat} {rt : Option FieldType} {nm : String} {a : Addr} {k : ClassId} {z j : Int32} {vs : List Value} {d v : Value}
theorem Rn.i2b (K : Cx w Z a0 own bytes ml rt nm) {x : Int32} (hd : decode bytes pc = .ok (.i2b, 1)) (hq : pc + 1 = q) (r : Rn w l R n0 F q Ls (.int x.toInt8.toInt32 :: S) h cs ss) : Rn w l R n0 F pc Ls (.int x :: S) h cs ss := by
  subst hq; exact Rn.step (fun T locs X t k => XS.i2b X.here K.x rfl (hb K.cd hd) rfl k) r
theorem Rn.bastoreB (K : Cx w Z a0 own bytes ml rt nm) (A : Arv Z h a k .byte z vs d) {x : Int32} (hj : ¬ j < 0 ∧ j < z) {i : Nat} (hi : j.toNatClampNeg = i) (hi' : i < vs.length) (hg : n0 ≤ a) (hd : decode bytes pc = .ok (.bastore, 1)) (hq : pc + 1 = q)
    (r : ∀ h', Wr h h' a i (.int (nar .byte x)) → Arv Z h' a k .byte z (vs.set i (.int (nar .byte x))) d → Rn w l R n0 F q Ls S h' cs ss) : Rn w l R n0 F pc Ls (.int x :: .int j :: .ref a :: S) h cs ss := fun T locs X eT N => by
  subst hq hi
  obtain ⟨c, A1, A2, A3, A4, A5, A6⟩ := A
  obtain ⟨T', h', X', e', W, st⟩ := Jvm.RoadKit.stB X K.x K.z eT A1 (inb_of A3 hj) (g := mkF w.m pc Ls (.int x :: .int j :: .ref a :: S)) rfl rfl (hb K.cd hd)
  obtain ⟨s₂, o, h1, r'⟩ := r h' W (Arv.set A1 A2 A3 A4 A5 A6 (fits_nar_byte _) W _ rfl hi') T' _ X' e' (Fr.snoc X' N hg)
  exact ⟨s₂, o, st _ h1, r'⟩
end OwnKit4
theorem own_eqI {args : Array Value} {s : State} {t : Term} {k : Int32} (h : (Jvm.Cond.eq t (.int k)).value args s none s [] = some true) : t.eval args s none [] s = some (.int k) := by
  obtain ⟨x, y, hx, hy, hk, hk'⟩ := cmp_v (Or.inl h)
  rw [Term.int_eval] at hy
  cases hy
  obtain ⟨z, rfl⟩ := hk'
  have e : z = k := by simpa [Cond.value, hx, Term.eval] using h
  rw [hx, e]
theorem own_ord {args : Array Value} {s : State} {C n d : String} {a : Addr} {k : Int32} (ev : (Term.static C n d).eval args s none [] s = some (.ref a)) (h : (Jvm.Cond.eq (.field (.static C n d) "java/lang/Enum" "ordinal" "I") (.int k)).value args s none s [] = some true) : Fld s s.heap a "java/lang/Enum" "ordinal" "I" (.int k) := by
  have h2 := own_eqI h
  rw [fld_at ev] at h2
  exact Fld.start h2
theorem own_fref {args : Array Value} {s : State} {C n d C' n' d' O f e : String} {a b : Addr} (ev : (Term.static C n d).eval args s none [] s = some (.ref a)) (ev' : (Term.static C' n' d').eval args s none [] s = some (.ref b)) (h : (Jvm.Cond.eq (.field (.static C n d) O f e) (.static C' n' d')).value args s none s [] = some true) : Fld s s.heap a O f e (.ref b) := by
  obtain ⟨x, y, hx, hy, hk, hk'⟩ := cmp_v (Or.inl h)
  rw [ev'] at hy
  cases hy
  have e1 : x = .ref b := gotT (eq_R hx ev' hk'.2 rfl) h
  subst e1
  rw [fld_at ev] at hx
  exact Fld.start hx
theorem own_fnull {args : Array Value} {s : State} {C n d O f e : String} {a : Addr} (ev : (Term.static C n d).eval args s none [] s = some (.ref a)) (h : (Jvm.Cond.eq (.field (.static C n d) O f e) .null).value args s none s [] = some true) : Fld s s.heap a O f e .null := by
  have hx := null_v h
  rw [fld_at ev] at hx
  exact Fld.start hx
theorem own_mask (x : Int32) : 0 ≤ (x &&& (2147483647 : Int32)).toInt := by
  have h : ¬ (x &&& (2147483647 : Int32)) < 0 := fun q => by
    have := (XT.and_neg32 _ _).mp q
    exact absurd this.2 (by decide)
  rw [Int32.lt_iff_toInt_lt] at h
  have e0 : (0 : Int32).toInt = 0 := rfl
  omega
theorem own_mod (x : Int32) {n : Int32} {k : Int} (hn : n.toInt = k) (hk : 0 < k) : 0 ≤ ((x &&& (2147483647 : Int32)) % n).toInt ∧ ((x &&& (2147483647 : Int32)) % n).toInt < k := by
  have h := own_mask x
  rw [Int32.toInt_mod, hn]
  exact ⟨Int.tmod_nonneg _ h, Int.tmod_lt_of_pos _ hk⟩
theorem own_lit {x : Int32} {k : Int} {v : Int32} (h : x.toInt = k) (hv : v.toInt = k) : x = v := Int32.toInt_inj.mp (h.trans hv.symm)
def Enm (Z : State) (h : Heap) (C : String) (a : Addr) (k : Int32) : Prop := Exa Z h a C ∧ Fld Z h a "java/lang/Enum" "ordinal" "I" (.int k)
theorem Enm.ne {Z : State} {h : Heap} {C D : String} {a b : Addr} {k j : Int32} (A : Enm Z h C a k) (B : Enm Z h D b j) (q : k ≠ j) : a ≠ b := Fld.ne A.2 B.2 (fun e => q (Value.int.inj e))
theorem own_lc_lt (x y : Int64) : lcmpW x y < 0 ↔ x < y := by rw [lcW]; exact lc_lt x y
theorem own_lc_gt (x y : Int64) : 0 < lcmpW x y ↔ y < x := by rw [lcW]; exact lc_gt x y
theorem own_lc_eq (x y : Int64) : lcmpW x y = 0 ↔ x = y := by rw [lcW]; exact lc_eq x y
theorem own_eqL {args : Array Value} {s : State} {t : Term} {k : Int64} (h : (Jvm.Cond.eq t (.long k)).value args s none s [] = some true) : t.eval args s none [] s = some (.long k) := by
  obtain ⟨x, y, hx, hy, hk, hk'⟩ := cmp_v (Or.inl h)
  have hy2 : (Term.long k).eval args s none [] s = some (.long k) := rfl
  rw [hy2] at hy
  cases hy
  obtain ⟨z, rfl⟩ := hk'
  have e : z = k := gotT (eq_L hx hy2) h
  rw [hx, e]
section OwnKitS
open Jvm.Free.Exc in
/-! walks that may intern literals: vm0 is the tables at hand; the words on constants are kept up (CHv, CHr, Safe: Shelf42/RW14) -/
abbrev Wk.on (w : Wk) (vm : Vm) : Wk := (w.1, w.2.1, w.2.2.1.setVm vm, w.2.2.2.1, w.2.2.2.2.1, w.2.2.2.2.2.1, w.2.2.2.2.2.2.1, w.2.2.2.2.2.2.2)
def Sd (w : Wk) (Z : State) (EL : List (String × Nat)) (sf : List Addr) (vm0 : Vm) (h : Heap) : Prop :=
  (∃ k0, w.s.Since vm0 k0 ∧ k0 ≤ h.size) ∧ Z.Warmed39 vm0 ∧ CHr Z EL w.s.vm w.s.heap vm0 h ∧ ∀ x ∈ sf, Safe Z EL vm0 h x ∧ x < h.size
abbrev FinS (w : Wk) (R : Room) (n0 : Nat) (Z : State) (EL : List (String × Nat)) (Q : Option Value → Heap → Prop) (o : Outcome) (s₂ : State) : Prop :=
  ∃ v L, o = .returned v ∧ (Fr n0 L ∧ Q v s₂.heap) ∧ CHr Z EL w.s.vm w.s.heap s₂.vm s₂.heap ∧ ReturnedEndW w.s o s₂ L R.cells R.slots
def RnS (w : Wk) (l : Launch) (R : Room) (n0 : Nat) (F : Outcome → State → Prop) (Z : State) (EL : List (String × Nat)) (sf : List Addr) (pc : Nat) (Ls : Array Slot) (S : List Value) (h : Heap) (cs ss : Nat) : Prop :=
  ∀ vm0, Sd w Z EL sf vm0 h → Rn (w.on vm0) l R n0 F pc Ls S h cs ss
def MetS (l : Launch) (Z : State) (EL : List (String × Nat)) (y : MethodName) (bytes : ByteArray) (ml : Nat) (rt : Option FieldType) (rm : Room) (n0 : Nat) (ws : List Jvm.Cond) (sf : List Addr) (as' : Array Value) (h0 : Heap) (Q : Option Value → Heap → Prop) : Prop :=
  MetFree l y (head1 (Jvm.Cond.code y bytes ml rt :: ws) rm) (fun a U => a = as' ∧ Z.Warmed39 U.vm ∧ U.heap = h0 ∧ CHv Z EL U.vm h0 ∧ ∀ x ∈ sf, Safe Z EL U.vm h0 x ∧ x < h0.size) (fun _ _ _ _ _ => True)
    (fun _ U o U' => ∃ v L, o = .returned v ∧ (Fr n0 L ∧ Q v U'.heap) ∧ CHr Z EL U.vm U.heap U'.vm U'.heap ∧ ReturnedEndW U o U' L rm.cells rm.slots)
variable {w : Wk} {l : Launch} {R : Room} {n0 : Nat} {F : Outcome → State → Prop} {Q : Option Value → Heap → Prop} {pc q : Nat} {Ls Ls' : Array Slot} {S S' : List Value} {h h' : Heap} {cs ss cs' ss' : Nat} {Z : State} {a0 : Array Value} {own : String} {bytes : ByteArray} {ml : Nat} {rt : Option FieldType} {nm : String} {EL : List (String × Nat)} {sf sf' : List Addr} {vm0 : Vm}
theorem Cx.on (K : Cx w Z a0 own bytes ml rt nm) (hs : Sd w Z EL sf vm0 h) : Cx (w.on vm0) Z a0 own bytes ml rt nm := by
  obtain ⟨⟨k0, hS, -⟩, hZ, -, -⟩ := hs
  exact ⟨K.1, K.2.1, K.2.2.1, (by show vm0.findClass own = some w.m.cls; rw [hS.1.alike.findClass]; exact K.ow), hZ, K.ret, K.lk, K.nme, K.hw⟩
/-- x may be written: it is no cell of a booked literal -/
def Wok (Z : State) (h : Heap) (sf : List Addr) (x : Addr) : Prop := x ∈ sf ∨ ∃ C, Exa Z h x C ∧ C ≠ "java/lang/String" ∧ C ≠ "[B"
theorem Wok.safe {x : Addr} (hs : Sd w Z EL sf vm0 h) (W : Wok Z h sf x) : Safe Z EL vm0 h x := by
  rcases W with q | ⟨C, E, h1, h2⟩
  · exact (hs.2.2.2 x q).1
  · exact Safe.exa hs.2.1.alike E h1 h2
theorem Sd.ext (hs : Sd w Z EL sf vm0 h) (E : Ext h h') : Sd w Z EL sf vm0 h' := by
  obtain ⟨⟨k0, hS, hk⟩, hZ, hC, hF⟩ := hs
  exact ⟨⟨k0, hS, Nat.le_trans hk E.1⟩, hZ, hC.trans (CHr.ext E hC.1), fun x hx => ⟨(hF x hx).1.ext E hC.1, Nat.lt_of_lt_of_le (hF x hx).2 E.1⟩⟩
theorem Sd.add {b : Addr} (hs : Sd w Z EL sf vm0 h) (E : Ext h h') (hb : b = h.size) (hb' : b < h'.size) : Sd w Z EL (b :: sf) vm0 h' := by
  have h1 := hs.ext E
  refine ⟨h1.1, h1.2.1, h1.2.2.1, fun x hx => (List.mem_cons.mp hx).elim (fun e => ?_) (h1.2.2.2 x)⟩
  subst e
  exact ⟨(Safe.new (Nat.le_of_eq hb.symm)).ext E hs.2.2.1.1, hb'⟩
theorem Sd.wr {a : Addr} {sl : Nat} {v : Value} (hs : Sd w Z EL sf vm0 h) (W : Wr h h' a sl v) (k : Wok Z h sf a) : Sd w Z EL sf vm0 h' := by
  have sa := k.safe hs
  obtain ⟨⟨k0, hS, hk⟩, hZ, hC, hF⟩ := hs
  exact ⟨⟨k0, hS, by rw [W.size]; exact hk⟩, hZ, hC.trans (CHr.wr W sa hC.1), fun x hx => ⟨Safe.wr W sa hC.1 (hF x hx).1, by rw [W.size]; exact (hF x hx).2⟩⟩
theorem Sd.keep {ws : List Addr} (hs : Sd w Z EL sf vm0 h) (K : Keep h h' ws) (k : ∀ x ∈ ws, Wok Z h sf x) : Sd w Z EL sf vm0 h' := by
  have sa : ∀ x ∈ ws, Safe Z EL vm0 h x := fun x hx => (k x hx).safe hs
  obtain ⟨⟨k0, hS, hk⟩, hZ, hC, hF⟩ := hs
  exact ⟨⟨k0, hS, Nat.le_trans hk K.1⟩, hZ, hC.trans (CHr.keep K sa hC.1), fun x hx => ⟨Safe.keep K sa hC.1 (hF x hx).1, Nat.lt_of_lt_of_le (hF x hx).2 K.1⟩⟩
theorem Sd.less (hs : Sd w Z EL sf vm0 h) (k : ∀ x ∈ sf', x ∈ sf) : Sd w Z EL sf' vm0 h := ⟨hs.1, hs.2.1, hs.2.2.1, fun x hx => hs.2.2.2 x (k x hx)⟩
/-- from one vm to a later one -/
theorem Sd.later {vm1 : Vm} (hs : Sd w Z EL sf vm0 h) (h1 : ∃ k1, w.s.Since vm1 k1 ∧ k1 ≤ h'.size) (hZ1 : Z.Warmed39 vm1) (hC : CHr Z EL vm0 h vm1 h') : Sd w Z EL sf vm1 h' := by
  obtain ⟨-, -, hC0, hF⟩ := hs
  exact ⟨h1, hZ1, hC0.trans hC, fun x hx => ⟨hC.safe (hF x hx).2 (hF x hx).1, Nat.lt_of_lt_of_le (hF x hx).2 hC.2.1⟩⟩
/-! lifting -/
theorem RnS.lift (f : ∀ vm0, Sd w Z EL sf vm0 h → Rn (w.on vm0) l R n0 F q Ls' S' h cs ss → Rn (w.on vm0) l R n0 F pc Ls S h cs ss) (r : RnS w l R n0 F Z EL sf q Ls' S' h cs ss) : RnS w l R n0 F Z EL sf pc Ls S h cs ss := fun vm0 hs => f vm0 hs (r vm0 hs)
theorem RnS.liftW {a : Addr} {sl : Nat} {v : Value} (k : Wok Z h sf a) (f : ∀ vm0, Sd w Z EL sf vm0 h → (∀ h', Wr h h' a sl v → Rn (w.on vm0) l R n0 F q Ls' S' h' cs ss) → Rn (w.on vm0) l R n0 F pc Ls S h cs ss) (r : ∀ h', Wr h h' a sl v → RnS w l R n0 F Z EL sf q Ls' S' h' cs ss) : RnS w l R n0 F Z EL sf pc Ls S h cs ss :=
  fun vm0 hs => f vm0 hs (fun h' W => r h' W vm0 (hs.wr W k))
/-- a callee that interns nothing -/
theorem RnS.liftC {Q' : Option Value → Heap → Prop} {rest : List Value} (f : ∀ vm0, Sd w Z EL sf vm0 h → (∀ v h', Q' v h' → Rn (w.on vm0) l R n0 F q Ls (v.toList ++ rest) h' cs' ss') → Rn (w.on vm0) l R n0 F pc Ls S h cs ss)
    (k : ∀ v h', Q' v h' → ∃ ws, Keep h h' ws ∧ ∀ x ∈ ws, Wok Z h sf x) (r : ∀ v h', Q' v h' → RnS w l R n0 F Z EL sf q Ls (v.toList ++ rest) h' cs' ss') : RnS w l R n0 F Z EL sf pc Ls S h cs ss :=
  fun vm0 hs => f vm0 hs (fun v h' hq => by obtain ⟨ws, K, kk⟩ := k v h' hq; exact r v h' hq vm0 (hs.keep K kk))
theorem RnS.liftL {Qf : Option Value → Heap → List Loc → Prop} {rest : List Value} (k : ∀ v h' L, Qf v h' L → ∃ ws, Keep h h' ws ∧ ∀ x ∈ ws, Wok Z h sf x) (f : ∀ vm0, Sd w Z EL sf vm0 h → (∀ v h' L, Qf v h' L → Rn (w.on vm0) l R n0 F q Ls (v.toList ++ rest) h' cs' ss') → Rn (w.on vm0) l R n0 F pc Ls S h cs ss)
    (r : ∀ v h' L, Qf v h' L → RnS w l R n0 F Z EL sf q Ls (v.toList ++ rest) h' cs' ss') : RnS w l R n0 F Z EL sf pc Ls S h cs ss :=
  fun vm0 hs => f vm0 hs (fun v h' L hq => by obtain ⟨ws, K, kk⟩ := k v h' L hq; exact r v h' L hq vm0 (hs.keep K kk))
theorem RnS.less (k : ∀ x ∈ sf', x ∈ sf) (r : RnS w l R n0 F Z EL sf' pc Ls S h cs ss) : RnS w l R n0 F Z EL sf pc Ls S h cs ss := fun vm0 hs => r vm0 (hs.less k)
/-! making: what is made is safe -/
theorem RnS.newO (K : Cx w Z a0 own bytes ml rt nm) {i k : Nat} {C : String} (hi : Jvm.Cond.classLink own i C ∈ tables_1) (hin : Jvm.Cond.instantiable C k ∈ tables_1) (hz : Jvm.Cond.initialized C ∈ tables_1) (hc : cs + 1 ≤ R.cells) (hs : ss + k ≤ R.slots) (hd : decode bytes pc = .ok (.new i, 3)) (hq : pc + 3 = q)
    (r : ∀ b h', b = h.size → Ext h h' → Exa Z h' b C → (∀ {O n d : String} {ty : FieldType}, Laid Z a0 C O n d → parseFieldDescriptor d = some ty → Fld Z h' b O n d (defaultValue ty)) → RnS w l R n0 F Z EL (b :: sf) q Ls (.ref b :: S) h' (cs + 1) (ss + k)) : RnS w l R n0 F Z EL sf pc Ls S h cs ss :=
  fun vm0 hv => Rn.newO (K.on hv) hi hin hz hc hs hd hq (fun b h' e E A D => r b h' e E A D vm0 (hv.add E e A.lt))
theorem RnS.newP (K : Cx w Z a0 own bytes ml rt nm) {aty : ArrayType} {x : Int32} {cap : Nat} (hi : Jvm.Cond.arrayClass (newarray.typeOf aty) ∈ tables_1) (hn : ¬ x < 0) (hcap : x.toNatClampNeg ≤ cap) (hb8 : cap * 8 ≤ 536870912) (hc : cs + 1 ≤ R.cells) (hs : ss + cap ≤ R.slots) {ad : String} (had : "[" ++ (newarray.typeOf aty).toString = ad) (hd : decode bytes pc = .ok (.newarray aty, 2)) (hq : pc + 2 = q)
    (r : ∀ b h' k, b = h.size → Ext h h' → Arv Z h' b k (newarray.typeOf aty) x [] (defaultValue (newarray.typeOf aty)) → Exa Z h' b ad → RnS w l R n0 F Z EL (b :: sf) q Ls (.ref b :: S) h' (cs + 1) (ss + cap)) : RnS w l R n0 F Z EL sf pc Ls (.int x :: S) h cs ss :=
  fun vm0 hv => Rn.newP (K.on hv) hi hn hcap hb8 hc hs had hd hq (fun b h' k e E A D => r b h' k e E A D vm0 (hv.add E e A.lt))
/-! ldc of a String constant, read -/
theorem RnS.ldcS (K : Cx w Z a0 own bytes ml rt nm) {i n : Nat} {text : String} {vs : List Value} {z : Int32} (hi : Jvm.Cond.stringLink own i text ∈ tables_1) (wS : ∀ a ∈ Bundle.stringAtoms, a.before a0 Z = true) (hEL : EW Z a0 EL) (hmem : (own, i) ∈ EL) (ht : (∀ c ∈ text.toList, c.toNat < 256) ∧ text.toList.map (fun c => Value.int (Jvm.Lit.byteI c.toNat.toUInt16)) = vs) (hz : ¬ z < 0) (hl : z.toNatClampNeg = vs.length)
    (hn : 4 * text.toList.length ≤ n) (hbig : n ≤ 536870912) (hc : cs + 2 ≤ R.cells) (hsl : ss + (n + 4) ≤ R.slots) (hd : decode bytes pc = .ok (.ldc i, 2)) (hq : pc + 2 = q)
    (r : ∀ a b k h', Ext h h' → Exa Z h' a "java/lang/String" → Fld Z h' a "java/lang/String" "coder" "B" (.int 0) → Fld Z h' a "java/lang/String" "value" "[B" (.ref b) → Arv Z h' b k .byte z vs (.int 0) → (∀ x ∈ sf, x ≠ a ∧ x ≠ b) → RnS w l R n0 F Z EL sf q Ls (.ref a :: S) h' (cs + 2) (ss + (n + 4))) : RnS w l R n0 F Z EL sf pc Ls S h cs ss := fun vm0 hs T locs X eT N => by
  subst hq
  obtain ⟨k0, hS, hk⟩ := hs.1
  obtain ⟨a, T', h', k1, b, k, X', e', E, hS1, hk1, hZ1, -, q1, q2, q3, q4, -, -, hC, -, hne, st⟩ := ldcCH (s := w.s) (vm0 := vm0) X K.x hs.2.1 (K.on hs).ow (K.hw _ hi) wS eT hS hk hEL hmem hs.2.2.1.1 ht hz hl (g := mkF w.m pc Ls S) rfl (hb K.cd hd) hn hbig hc hsl
  have hs1 := hs.later ⟨k1, hS1, hk1⟩ hZ1 hC
  obtain ⟨s₂, o, h1, r'⟩ := r a b k h' E q1 q2 q3 q4 (fun x hx => hne x (hs1.2.2.2 x hx).1) T'.vm hs1 T' _ X' e' N
  exact ⟨s₂, o, st _ h1, r'⟩
/-! the ends -/
theorem RnS.fin {v : Option Value} {T : State} {locs : List Loc} {fs : List Frame} (hEL : EW Z a0 EL) (hs : Sd w Z EL sf vm0 h) (X : Stand w.p l w.e R (w.s.setVm vm0) w.m w.a w.b w.t w.c T locs cs ss) (eT : T.heap = h) (N : Fr n0 locs) (hW : (w.s.setVm vm0).WarmedH (T.setFrames fs).vm) (hsame : (w.s.setVm vm0).sameButNew ({ T.setFrames fs with vm := (w.s.setVm vm0).vm } : State) locs cs ss) (hc : cs ≤ R.cells) (hsl : ss ≤ R.slots) (hQ : Q v h) :
    FinS w R n0 Z EL Q (.returned v) (T.setFrames fs) := by
  obtain ⟨⟨k0, hS, hk⟩, hZ, hC, -⟩ := hs
  have hS2 : w.s.Since (T.setFrames fs).vm (T.setFrames fs).heap.size := hS.trans (hW.since _) (by show k0 ≤ T.heap.size; rw [eT]; exact hk)
  have hC2 : CHr Z EL vm0 h T.vm h := CHv.at X hZ hEL hC.1
  refine ⟨v, locs, rfl, ⟨N, by rw [← eT] at hQ; exact hQ⟩, ?_, ⟨_, rfl⟩, hS2.1, hS2.2, (hsame.setVm w.s.vm).mono hc hsl⟩
  have := hC.trans hC2
  rw [← eT] at this
  exact this
theorem RnS.retN (K : Cx w Z a0 own bytes ml rt nm) (hEL : EW Z a0 EL) {x : Int32} (t : FieldType) (ht : rt = some t) (ht' : t = .boolean ∨ t = .byte ∨ t = .char ∨ t = .short) (hd : decode bytes pc = .ok (.ireturn, 1)) (hc : cs ≤ R.cells) (hsl : ss ≤ R.slots) (hQ : Q (some (.int (nar t x))) h) : RnS w l R n0 (FinS w R n0 Z EL Q) Z EL sf pc Ls (.int x :: S) h cs ss := fun vm0 hs T locs X eT N => by
  obtain ⟨fs, hr, hrun, hended, hW, hsame⟩ := X.leave (v := some (.int (nar t x))) (fun h => by rw [K.ret, ht] at h; cases h) K.lk
  exact ⟨_, _, Jvm.RoadKit.retN X K.x (K.ret.trans ht) ht' (hb K.cd hd) hr, hrun, hended, RnS.fin hEL hs X eT N hW hsame hc hsl hQ⟩
theorem RnS.retI (K : Cx w Z a0 own bytes ml rt nm) (hEL : EW Z a0 EL) {x : Int32} (ht : rt = some .int) (hd : decode bytes pc = .ok (.ireturn, 1)) (hc : cs ≤ R.cells) (hsl : ss ≤ R.slots) (hQ : Q (some (.int x)) h) : RnS w l R n0 (FinS w R n0 Z EL Q) Z EL sf pc Ls (.int x :: S) h cs ss := fun vm0 hs T locs X eT N => by
  obtain ⟨fs, hr, hrun, hended, hW, hsame⟩ := X.leave (v := some (.int x)) (fun h => by rw [K.ret, ht] at h; cases h) K.lk
  exact ⟨_, _, Jvm.RoadKit.retI X K.x (K.ret.trans ht) (hb K.cd hd) hr, hrun, hended, RnS.fin hEL hs X eT N hW hsame hc hsl hQ⟩
theorem RnS.retA (K : Cx w Z a0 own bytes ml rt nm) (hEL : EW Z a0 EL) {v : Value} (t : FieldType) (hv : v.isRef = true) (ht : rt = some t) (ht' : t.isReference = true) (hd : decode bytes pc = .ok (.areturn, 1)) (hc : cs ≤ R.cells) (hsl : ss ≤ R.slots) (hQ : Q (some v) h) : RnS w l R n0 (FinS w R n0 Z EL Q) Z EL sf pc Ls [v] h cs ss := fun vm0 hs T locs X eT N => by
  obtain ⟨fs, hr, hrun, hended, hW, hsame⟩ := X.leave (v := some v) (fun h => by rw [K.ret, ht] at h; cases h) K.lk
  exact ⟨_, _, X.areturnOut K.x hv (K.ret.trans ht) ht' (hb K.cd hd) hr, hrun, hended, RnS.fin hEL hs X eT N hW hsame hc hsl hQ⟩
theorem RnS.retV (K : Cx w Z a0 own bytes ml rt nm) (hEL : EW Z a0 EL) (ht : rt = none) (hd : decode bytes pc = .ok (.return_, 1)) (hc : cs ≤ R.cells) (hsl : ss ≤ R.slots) (hQ : Q none h) : RnS w l R n0 (FinS w R n0 Z EL Q) Z EL sf pc Ls [] h cs ss := fun vm0 hs T locs X eT N => by
  obtain ⟨fs, hr, hrun, hended, hW, hsame⟩ := X.leave (v := none) (fun _ => rfl) K.lk
  exact ⟨_, _, X.returnOut K.x (K.ret.trans ht) (hb K.cd hd) hr, hrun, hended, RnS.fin hEL hs X eT N hW hsame hc hsl hQ⟩
/-! contracts -/
theorem MetS.intro {y : MethodName} {as' : Array Value} {h0 : Heap} {rm : Room} {ws : List Jvm.Cond} (hp : plainFor y = true) (hw : ∀ d ∈ tables_1, d.before a0 Z = true) (ef : ∀ m, entryFrame m as' ml = mkF m 0 Ls [])
    (k : ∀ w : Wk, Cx w Z a0 y.cls bytes ml rt y.name → RnS w l rm n0 (FinS w rm n0 Z EL Q) Z EL sf 0 Ls [] h0 0 0) : MetS l Z EL y bytes ml rt rm n0 ws sf as' h0 Q := by
  refine MetFree.of_bodySF hp hisR ?_
  intro p e s m args below meth c s₁ Bd hml0 hP hK
  obtain ⟨ha, hZ, hh, hC, hF⟩ := hP
  subst ha
  have e0 : s₁.heap = h0 := by rw [← hh, Bd.state]; rfl
  obtain ⟨s₂, o, h1, h2, h3, h4⟩ := k (p, e, s, m, args, below, meth, c) ⟨Bd.exec, Bd.bytes, hml0, findClass_of_methodNamed Bd.named, hZ, Bd.returns, Bd.notSynchronized, (name_of_methodNamed Bd.named Bd.method).1, hw⟩ s.vm ⟨⟨0, (State.WarmedH.refl s).since 0, Nat.zero_le _⟩, hZ, by show CHr Z EL s.vm s.heap s.vm h0; rw [hh]; exact CHr.refl hC, hF⟩ s₁ [] (Stand.of_body Bd) e0 (Fr.nil n0)
  exact ⟨s₂, o, castTop (ef m) h1, h2, h3, h4⟩
theorem own_backS {y : MethodName} {bz : ByteArray} {mz : Nat} {rz : Option FieldType} {rm : Room} {len W : Nat} {as' : Array Value} {Q' : Option Value → Heap → Prop} (ksf : ∀ x ∈ sf', x ∈ sf) (M : MetS l Z EL y bz mz rz rm n0 [] sf' as' h Q') (hs : Sd w Z EL sf vm0 h) (wc : (Jvm.Cond.code y bz mz rz).before a0 Z = true) (wz : (Jvm.Cond.initialized y.cls).before a0 Z = true) (hf : rm.frames + 1 ≤ R.frames) (hl : W + (mz + 11) + rm.locals ≤ R.locals) (hEL : EW Z a0 EL) :
    BackS l R w.p w.e w.b (w.s.setVm vm0) w.a y len W (fun A a => a = as' ∧ A.U.heap = h ∧ A.cells + rm.cells ≤ R.cells ∧ A.slots + rm.slots ≤ R.slots)
      (fun A _ v B => ∃ L, (Fr n0 L ∧ Q' v B.U.heap) ∧ B.locs = A.locs ++ L ∧ B.cells = A.cells + rm.cells ∧ B.slots = A.slots + rm.slots ∧ CHr Z EL vm0 h B.U.vm B.U.heap) :=
  BackS.of_freeW (bytes := bz) (maxL := mz) (ret := rz) (E := fun _ first o t L k n => k = rm.cells ∧ n = rm.slots ∧ (∃ v, o = .returned v ∧ Fr n0 L ∧ Q' v t.heap) ∧ CHr Z EL first.vm first.heap t.vm t.heap) M hf hl
    (fun m meth c A a Y hp => have hU : Z.Warmed39 A.U.vm := wtrans (s := w.s.setVm vm0) hs.2.1 Y.warmed
      ⟨by show (Jvm.Cond.and _ .tt).before a A.U = true; rw [Cond.before_and, mv hU wc]; rfl, mv hU wc, mv hU wz, hp.2.2.1, hp.2.2.2⟩)
    (fun m meth c A a g mk Y hp => ⟨hp.1, wtrans (s := w.s.setVm vm0) hs.2.1 Y.warmed, hp.2.1, (CHv.at Y hs.2.1 hEL hs.2.2.1.1).1, fun x hx' => have hx := ksf x hx'; ⟨(CHv.at Y hs.2.1 hEL hs.2.2.1.1).safe (hs.2.2.2 x hx).2 (hs.2.2.2 x hx).1, (hs.2.2.2 x hx).2⟩⟩) (fun _ _ _ _ _ _ _ _ _ => trivial)
    (fun _ _ _ _ ⟨v, L, h1, h2, h3, h4⟩ => ⟨L, _, _, h4, rfl, rfl, ⟨v, h1, h2⟩, h3⟩)
    (fun m meth c A a g mk v t L k n Y hp _ _ ⟨e1, e2, ⟨v', e3, e4⟩, e5⟩ => by
      cases e3; subst e1 e2
      refine ⟨L, e4, rfl, rfl, rfl, (CHv.at Y hs.2.1 hEL hs.2.2.1.1).trans ?_⟩
      rw [← hp.2.1]; exact e5)
theorem RnS.statS (K : Cx w Z a0 own bytes ml rt nm) (hEL : EW Z a0 EL) {index W : Nat} {y : MethodName} {argsL rest : List Value} {bz : ByteArray} {mz : Nat} {rz : Option FieldType} {rm : Room} {Q' : Option Value → Heap → Prop}
    (i1 : Jvm.Cond.methodLink own index y ∈ tables_1) (i2 : Jvm.Cond.static y ∈ tables_1) (i5 : Jvm.Cond.code y bz mz rz ∈ tables_1) (i6 : Jvm.Cond.initialized y.cls ∈ tables_1)
    (hy : y.cls ≠ "java/lang/invoke/MethodHandle" ∧ y.cls ≠ "java/lang/invoke/VarHandle") (ksf : ∀ x ∈ sf', x ∈ sf) (M : MetS l Z EL y bz mz rz rm n0 [] sf' argsL.toArray h Q') (hf : rm.frames + 1 ≤ R.frames) (hlo : W + (mz + 11) + rm.locals ≤ R.locals)
    (hsz : Ls.size = ml) (hlen : ∀ sig, parseMethodDescriptor y.desc = some sig → argsL.length = sig.parameters.length) (hS : S = argsL.reverse ++ rest) (hW : (rest.map fun v => v.category).sum ≤ W)
    (hd : decode bytes pc = .ok (.invokestatic index, 3)) (hq : pc + 3 = q) (hc : cs + rm.cells ≤ R.cells) (hsl : ss + rm.slots ≤ R.slots)
    (r : ∀ v h', Q' v h' → RnS w l R n0 F Z EL sf q Ls (v.toList ++ rest) h' (cs + rm.cells) (ss + rm.slots)) : RnS w l R n0 F Z EL sf pc Ls S h cs ss := fun vm0 hs T locs X eT N => by
  subst hq hS
  have K2 := K.on hs
  obtain ⟨v, _, ⟨T', L', k', n'⟩, -, X', hS1, hle, ⟨Lc, hQ, l', y', z', hC⟩, st⟩ := callSS X K.x (y := y) K2.ow (mvT hs.2.1 (K.hw _ i1)) (mvT hs.2.1 (K.hw _ i2)) (mvT hs.2.1 (K.hw _ i6)) (mvT hs.2.1 (K.hw _ i5)) hy (own_backS (w := w) (W := W) ksf M hs (K.hw _ i5) (K.hw _ i6) hf hlo hEL) (g := mkF w.m pc Ls (argsL.reverse ++ rest)) rfl (hsz.trans K.mx.symm) (argsL := argsL) (rest := rest) hlen rfl (by show 2 * 0 + _ ≤ _; rw [Nat.mul_zero, Nat.zero_add]; exact hW) (hb K.cd hd) (fun _ _ => ⟨rfl, eT, hc, hsl⟩)
  dsimp only [Pt.U, Pt.locs, Pt.cells, Pt.slots] at X' l' y' z' st hQ hC hS1 hle
  subst l' y' z'
  obtain ⟨k0, hS0, hk⟩ := hs.1
  have hs1 := hs.later ⟨_, hS0.trans hS1 (Nat.le_trans hk (by rw [← eT]; exact hle)), Nat.le_refl _⟩ (State.Warmed39.trans (t := w.s.setVm vm0) hs.2.1 hS1.1) hC
  obtain ⟨s₂, o, h1, r'⟩ := r v T'.heap hQ.2 T'.vm hs1 T' _ X' rfl (Fr.app N hQ.1)
  exact ⟨s₂, o, st.trans h1, r'⟩
theorem RnS.specS (K : Cx w Z a0 own bytes ml rt nm) (hEL : EW Z a0 EL) {index W : Nat} {y : MethodName} {b : Addr} {argsL rest : List Value} {bz : ByteArray} {mz : Nat} {rm : Room} {Q' : Option Value → Heap → Prop}
    (hn : y.name = "<init>") (i1 : Jvm.Cond.methodLink own index y ∈ tables_1) (i4 : Jvm.Cond.instanceMethod y ∈ tables_1) (i5 : Jvm.Cond.code y bz mz none ∈ tables_1) (i6 : Jvm.Cond.initialized y.cls ∈ tables_1)
    (hy : y.cls ≠ "java/lang/invoke/MethodHandle" ∧ y.cls ≠ "java/lang/invoke/VarHandle") (ksf : ∀ x ∈ sf', x ∈ sf) (M : MetS l Z EL y bz mz none rm n0 [] sf' (.ref b :: argsL).toArray h Q') (hf : rm.frames + 1 ≤ R.frames) (hlo : W + (mz + 11) + rm.locals ≤ R.locals)
    (hsz : Ls.size = ml) (hlen : ∀ sig, parseMethodDescriptor y.desc = some sig → argsL.length = sig.parameters.length) (hS : S = argsL.reverse ++ .ref b :: rest) (hW : (rest.map fun v => v.category).sum ≤ W)
    (hd : decode bytes pc = .ok (.invokespecial index, 3)) (hq : pc + 3 = q) (hc : cs + rm.cells ≤ R.cells) (hsl : ss + rm.slots ≤ R.slots)
    (r : ∀ v h', Q' v h' → RnS w l R n0 F Z EL sf q Ls (v.toList ++ rest) h' (cs + rm.cells) (ss + rm.slots)) : RnS w l R n0 F Z EL sf pc Ls S h cs ss := fun vm0 hs T locs X eT N => by
  subst hq hS
  have K2 := K.on hs
  obtain ⟨v, _, ⟨T', L', k', n'⟩, -, X', hS1, hle, ⟨Lc, hQ, l', y', z', hC⟩, st⟩ := X.specialBackS K.x (y := y) hn K2.ow (mvT hs.2.1 (K.hw _ i1)) (mvT hs.2.1 (K.hw _ i4)) (mvT hs.2.1 (K.hw _ i5)) hy (own_backS (w := w) (W := W) ksf M hs (K.hw _ i5) (K.hw _ i6) hf hlo hEL) (g := mkF w.m pc Ls (argsL.reverse ++ .ref b :: rest)) rfl (hsz.trans K.mx.symm) (Steps.refl _) (a := b) (argsL := argsL) (rest := rest) hlen rfl (by show 2 * 0 + _ ≤ _; rw [Nat.mul_zero, Nat.zero_add]; exact hW) (hb K.cd hd) (fun _ _ => ⟨rfl, eT, hc, hsl⟩)
  dsimp only [Pt.U, Pt.locs, Pt.cells, Pt.slots] at X' l' y' z' st hQ hC hS1 hle
  subst l' y' z'
  obtain ⟨k0, hS0, hk⟩ := hs.1
  have hs1 := hs.later ⟨_, hS0.trans hS1 (Nat.le_trans hk (by rw [← eT]; exact hle)), Nat.le_refl _⟩ (State.Warmed39.trans (t := w.s.setVm vm0) hs.2.1 hS1.1) hC
  obtain ⟨s₂, o, h1, r'⟩ := r v T'.heap hQ.2 T'.vm hs1 T' _ X' rfl (Fr.app N hQ.1)
  exact ⟨s₂, o, st.trans h1, r'⟩
theorem RnS.virtS (K : Cx w Z a0 own bytes ml rt nm) (hEL : EW Z a0 EL) {index W : Nat} {y z : MethodName} {C : String} {b : Addr} {argsL rest : List Value} {bz : ByteArray} {mz : Nat} {rz : Option FieldType} {rm : Room} {Q' : Option Value → Heap → Prop}
    (i1 : Jvm.Cond.methodLink own index y ∈ tables_1) (i2 : Jvm.Cond.declares y ∈ tables_1) (nf : ∀ vm0, Sd w Z EL sf vm0 h → NotFace (w.s.setVm vm0) y) (i3 : Jvm.Cond.selects C y z ∈ tables_1) (i4 : Jvm.Cond.instanceMethod z ∈ tables_1) (i5 : Jvm.Cond.code z bz mz rz ∈ tables_1) (i6 : Jvm.Cond.initialized z.cls ∈ tables_1)
    (hy : y.cls ≠ "java/lang/invoke/MethodHandle" ∧ y.cls ≠ "java/lang/invoke/VarHandle") (ksf : ∀ x ∈ sf', x ∈ sf) (M : MetS l Z EL z bz mz rz rm n0 [] sf' (.ref b :: argsL).toArray h Q') (E : Exa Z h b C) (hf : rm.frames + 1 ≤ R.frames) (hlo : W + (mz + 11) + rm.locals ≤ R.locals)
    (hsz : Ls.size = ml) (hlen : ∀ sig, parseMethodDescriptor y.desc = some sig → argsL.length = sig.parameters.length) (hS : S = argsL.reverse ++ .ref b :: rest) (hW : (rest.map fun v => v.category).sum ≤ W)
    (hd : decode bytes pc = .ok (.invokevirtual index, 3)) (hq : pc + 3 = q) (hc : cs + rm.cells ≤ R.cells) (hsl : ss + rm.slots ≤ R.slots)
    (r : ∀ v h', Q' v h' → RnS w l R n0 F Z EL sf q Ls (v.toList ++ rest) h' (cs + rm.cells) (ss + rm.slots)) : RnS w l R n0 F Z EL sf pc Ls S h cs ss := fun vm0 hs T locs X eT N => by
  subst hq hS
  have K2 := K.on hs
  obtain ⟨cq, kq, qa, qb, qc⟩ := isOf (s := w.s.setVm vm0) hs.2.1 eT E
  obtain ⟨v, _, ⟨T', L', k', n'⟩, -, X', hS1, hle, ⟨Lc, hQ, l', y', z', hC⟩, st⟩ := X.virtualBackS K.x (y := y) (z := z) K2.ow (mvT hs.2.1 (K.hw _ i1)) (mvT hs.2.1 (K.hw _ i2)) (nf vm0 hs) (mvT hs.2.1 (K.hw _ i3)) (mvT hs.2.1 (K.hw _ i4)) hy (own_backS (w := w) (W := W) ksf M hs (K.hw _ i5) (K.hw _ i6) hf hlo hEL) qa qc (g := mkF w.m pc Ls (argsL.reverse ++ .ref b :: rest)) rfl (hsz.trans K.mx.symm) (Steps.refl _) (argsL := argsL) (rest := rest) hlen rfl (by show 2 * 0 + _ ≤ _; rw [Nat.mul_zero, Nat.zero_add]; exact hW) (hb K.cd hd) (fun _ _ => ⟨rfl, eT, hc, hsl⟩)
  dsimp only [Pt.U, Pt.locs, Pt.cells, Pt.slots] at X' l' y' z' st hQ hC hS1 hle
  subst l' y' z'
  obtain ⟨k0, hS0, hk⟩ := hs.1
  have hs1 := hs.later ⟨_, hS0.trans hS1 (Nat.le_trans hk (by rw [← eT]; exact hle)), Nat.le_refl _⟩ (State.Warmed39.trans (t := w.s.setVm vm0) hs.2.1 hS1.1) hC
  obtain ⟨s₂, o, h1, r'⟩ := r v T'.heap hQ.2 T'.vm hs1 T' _ X' rfl (Fr.app N hQ.1)
  exact ⟨s₂, o, st.trans h1, r'⟩
theorem nfsS (K : Cx w Z a0 own bytes ml rt nm) {C : String} {y : MethodName} (i : Jvm.Cond.selects C y y ∈ tables_1) (vm0 : Vm) (hs : Sd w Z EL sf vm0 h) : NotFace (w.s.setVm vm0) y := notFace_of_selects (args := #[]) (mvT hs.2.1 (K.hw _ i))
theorem own_kp0 {Z : State} {h : Heap} {sf : List Addr} : ∃ ws, Keep h h ws ∧ ∀ x ∈ ws, Wok Z h sf x := ⟨[], Keep.refl h _, fun _ hx => by cases hx⟩
theorem own_kp1 {Z : State} {h h' : Heap} {sf : List Addr} (K : Keep h h' []) : ∃ ws, Keep h h' ws ∧ ∀ x ∈ ws, Wok Z h sf x := ⟨[], K, fun _ hx => by cases hx⟩
end OwnKitS

theorem own_m3 (x : Int32) : (x &&& (3 : Int32)) = 0 ∨ (x &&& (3 : Int32)) = 1 ∨ (x &&& (3 : Int32)) = 2 ∨ (x &&& (3 : Int32)) = 3 := by
  have h : (x &&& 3).toBitVec = x.toBitVec &&& 3#32 := rfl
  have h2 : (x.toBitVec &&& 3#32).toNat = x.toBitVec.toNat % 4 := by
    rw [BitVec.toNat_and]; exact Nat.and_two_pow_sub_one_eq_mod _ 2
  have h3 : x.toBitVec.toNat % 4 < 4 := Nat.mod_lt _ (by decide)
  have key : ∀ n : Nat, (x &&& 3).toBitVec.toNat = n → n < 2^32 → (x &&& 3) = Int32.ofNat n := fun n hn hl => by
    apply Int32.toBitVec_inj.mp
    apply BitVec.eq_of_toNat_eq
    rw [hn]; simp [Int32.toBitVec_ofNat', BitVec.toNat_ofNat, Nat.mod_eq_of_lt hl]
  rw [h] at key
  rw [h2] at key
  have : x.toBitVec.toNat % 4 = 0 ∨ x.toBitVec.toNat % 4 = 1 ∨ x.toBitVec.toNat % 4 = 2 ∨ x.toBitVec.toNat % 4 = 3 := by omega
  rcases this with q | q | q | q
  · exact Or.inl (key 0 q (by decide))
  · exact Or.inr (Or.inl (key 1 q (by decide)))
  · exact Or.inr (Or.inr (Or.inl (key 2 q (by decide))))
  · exact Or.inr (Or.inr (Or.inr (key 3 q (by decide))))
theorem own_m255 (x : Int32) : ∃ k : Fin 256, (x &&& (255 : Int32)) = Int32.ofNat k := by
  have h2 : (x.toBitVec &&& 255#32).toNat = x.toBitVec.toNat % 256 := by
    rw [BitVec.toNat_and]; exact Nat.and_two_pow_sub_one_eq_mod _ 8
  have h3 : x.toBitVec.toNat % 256 < 256 := Nat.mod_lt _ (by decide)
  refine ⟨⟨x.toBitVec.toNat % 256, h3⟩, ?_⟩
  apply Int32.toBitVec_inj.mp
  apply BitVec.eq_of_toNat_eq
  show (x.toBitVec &&& 255#32).toNat = _
  rw [h2]; simp [Int32.toBitVec_ofNat', BitVec.toNat_ofNat]; omega
theorem own_ch (x : Int32) : ¬ (255 : Int32) < (x &&& (255 : Int32)).toUInt32.toUInt16.toUInt32.toInt32 := by
  obtain ⟨k, e⟩ := own_m255 x
  rw [e]
  exact (by decide +kernel : ∀ k : Fin 256, ¬ (255 : Int32) < (Int32.ofNat k).toUInt32.toUInt16.toUInt32.toInt32) k
theorem own_ch2 (x : Int32) : ¬ (255 : Int32) < nar .char ((x &&& (255 : Int32)).toUInt32.toUInt16.toUInt32.toInt32) := by
  obtain ⟨k, e⟩ := own_m255 x
  rw [e]
  exact (by decide +kernel : ∀ k : Fin 256, ¬ (255 : Int32) < nar .char ((Int32.ofNat k).toUInt32.toUInt16.toUInt32.toInt32)) k
theorem own_c1 (x : Int32) : (nar .char (nar .char ((nar .byte ((x &&& (255 : Int32)).toUInt32.toUInt16.toUInt32.toInt32).toInt8.toInt32) &&& (255 : Int32)).toUInt32.toUInt16.toUInt32.toInt32)) = (x &&& (255 : Int32)).toUInt32.toUInt16.toUInt32.toInt32 := by
  obtain ⟨k, e⟩ := own_m255 x
  rw [e]
  exact (by decide +kernel : ∀ k : Fin 256, (nar .char (nar .char ((nar .byte ((Int32.ofNat k).toUInt32.toUInt16.toUInt32.toInt32).toInt8.toInt32) &&& (255 : Int32)).toUInt32.toUInt16.toUInt32.toInt32)) = (Int32.ofNat k).toUInt32.toUInt16.toUInt32.toInt32) k
theorem own_c2 (x : Int32) : (nar .char (nar .char ((nar .byte (nar .char ((x &&& (255 : Int32)).toUInt32.toUInt16.toUInt32.toInt32)).toInt8.toInt32) &&& (255 : Int32)).toUInt32.toUInt16.toUInt32.toInt32)) = (x &&& (255 : Int32)).toUInt32.toUInt16.toUInt32.toInt32 := by
  obtain ⟨k, e⟩ := own_m255 x
  rw [e]
  exact (by decide +kernel : ∀ k : Fin 256, (nar .char (nar .char ((nar .byte (nar .char ((Int32.ofNat k).toUInt32.toUInt16.toUInt32.toInt32)).toInt8.toInt32) &&& (255 : Int32)).toUInt32.toUInt16.toUInt32.toInt32)) = (Int32.ofNat k).toUInt32.toUInt16.toUInt32.toInt32) k

theorem own_ne0 {args : Array Value} {s : State} {t : Term} {k : Int32} (ev : t.eval args s none [] s = some (.int k)) (h : (Jvm.Cond.not (Jvm.Cond.eq t (.int (0 : Int32)))).value args s none s [] = some true) : ¬ k = 0 := by
  rintro rfl
  simp [Cond.value, Term.eval, ev] at h
theorem own_isRef {args : Array Value} {s : State} {t : Term} (h : (Jvm.Cond.isRef t).value args s none s [] = some true) : ∃ v, t.eval args s none [] s = some v ∧ v.isRef = true := by
  simp only [Cond.value, Option.bind_eq_bind, Option.bind_eq_some_iff, Option.map_eq_some_iff] at h
  obtain ⟨v, e, q⟩ := h
  exact ⟨v, e, by cases v <;> simp_all [Value.isRef]⟩

theorem pd_0 : parseMethodDescriptor "()Z" = some ⟨[], some .boolean⟩ := by decide +kernel
theorem pd_1 : parseMethodDescriptor "()B" = some ⟨[], some .byte⟩ := by decide +kernel
theorem pd_2 : parseMethodDescriptor "(IILjava/util/function/BiFunction;)I" = some ⟨[.int, .int, (.object "java/util/function/BiFunction")], some .int⟩ := by decide +kernel
theorem pd_3 : parseMethodDescriptor "(II)V" = some ⟨[.int, .int], none⟩ := by decide +kernel
theorem pd_4 : parseMethodDescriptor "([BI)C" = some ⟨[(.array .byte), .int], some .char⟩ := by decide +kernel
theorem pd_5 : parseMethodDescriptor "(C)Z" = some ⟨[.char], some .boolean⟩ := by decide +kernel
theorem pd_6 : parseMethodDescriptor "(C)[B" = some ⟨[.char], some (.array .byte)⟩ := by decide +kernel
theorem pd_7 : parseMethodDescriptor "([BB)V" = some ⟨[(.array .byte), .byte], none⟩ := by decide +kernel
theorem pd_8 : parseMethodDescriptor "([CI[BII)I" = some ⟨[(.array .char), .int, (.array .byte), .int, .int], some .int⟩ := by decide +kernel
theorem pd_9 : parseMethodDescriptor "([CII)[B" = some ⟨[(.array .char), .int, .int], some (.array .byte)⟩ := by decide +kernel
theorem pd_10 : parseMethodDescriptor "([BI)B" = some ⟨[(.array .byte), .int], some .byte⟩ := by decide +kernel
theorem pd_11 : parseMethodDescriptor "([CIILjava/lang/Void;)V" = some ⟨[(.array .char), .int, .int, (.object "java/lang/Void")], none⟩ := by decide +kernel
theorem pd_12 : parseMethodDescriptor "([C)V" = some ⟨[(.array .char)], none⟩ := by decide +kernel
theorem pd_13 : parseMethodDescriptor "(C)Ljava/lang/String;" = some ⟨[.char], some (.object "java/lang/String")⟩ := by decide +kernel
theorem pd_14 : parseMethodDescriptor "(ICCC)Ljava/lang/String;" = some ⟨[.int, .char, .char, .char], some (.object "java/lang/String")⟩ := by decide +kernel
theorem pd_15 : parseMethodDescriptor "(Ljava/lang/String;)Ljava/lang/String;" = some ⟨[(.object "java/lang/String")], some (.object "java/lang/String")⟩ := by decide +kernel
theorem pd_16 : parseMethodDescriptor "()I" = some ⟨[], some .int⟩ := by decide +kernel
theorem pd_17 : parseMethodDescriptor "(Ljava/lang/Object;)Z" = some ⟨[(.object "java/lang/Object")], some .boolean⟩ := by decide +kernel
theorem pd_18 : parseMethodDescriptor "(I)C" = some ⟨[.int], some .char⟩ := by decide +kernel
theorem d11_0 : decode jdk_42_method_152_code 0 = .ok (.getstatic 38, 3) := by decide +kernel
theorem d11_3 : decode jdk_42_method_152_code 3 = .ok (.ifCond .eq 10, 3) := by decide +kernel
theorem d11_6 : decode jdk_42_method_152_code 6 = .ok (.aload_n 0, 1) := by decide +kernel
theorem d11_7 : decode jdk_42_method_152_code 7 = .ok (.getfield 15, 3) := by decide +kernel
theorem d11_10 : decode jdk_42_method_152_code 10 = .ok (.goto 4, 3) := by decide +kernel
theorem d11_14 : decode jdk_42_method_152_code 14 = .ok (.ireturn, 1) := by decide +kernel
theorem pn_m_coder : plainName "java/lang/String" = true := by first | (simp [plainName, overriddenIn]; done) | decide +kernel
set_option maxRecDepth 65536 in
set_option maxHeartbeats 40000000 in
theorem m_coder (l : Launch) (Z : State) (a0 : Array Value) (hw : ∀ d ∈ tables_1, d.before a0 Z = true) (n0 : Nat) (h0 : Heap) (s : Addr) (cst : Int32) (X0 : Old Z n0 h0) (SC : Sta Z Z.heap "java/lang/String" "COMPACT_STRINGS" "Z" (.int cst)) (hcs : ¬ cst = 0) (Fc : Fld Z h0 s "java/lang/String" "coder" "B" (.int (0 : Int32))) :
    Met l Z (⟨"java/lang/String", "coder", "()B"⟩ : MethodName) jdk_42_method_152_code 1 (some .byte) ({ frames := 0, cells := 0, slots := 0, locals := 0 } : Room) n0 [] #[(.ref s)] h0 (fun v h => v = some (.int (0 : Int32)) ∧ h0 = h) := by
  refine Met.intro (Ls := #[.val (.ref s)]) (plainFor_of_name pn_m_coder) hw (fun m => by first | rfl | (simp [entryFrame, mkF, argsToLocals, Value.category]; done)) ?_
  intro w K0
  have K : Cx w Z a0 "java/lang/String" jdk_42_method_152_code 1 (some .byte) "coder" := K0
  refine Rn.getS K (q := 3) (List.mem_of_getElem? (i := 35) rfl) (SC.ext X0.2) d11_0 rfl ?_
  refine Rn.ifN K (q := 6) d11_3 (XT.i0_eq_f hcs) rfl ?_
  refine Rn.aloadN K (q := 7) d11_6 rfl rfl rfl ?_
  refine Rn.getF K (q := 10) (List.mem_of_getElem? (i := 25) rfl) Via.refl Fc d11_7 rfl ?_
  refine Rn.goto K (q := 14) d11_10 (by decide) (by decide) ?_
  exact Rn.retN K .byte rfl (by simp) d11_14 (by decide) (by decide) ⟨rfl, rfl⟩
theorem d14_0 : decode jdk_42_method_154_code 0 = .ok (.getstatic 38, 3) := by decide +kernel
theorem d14_3 : decode jdk_42_method_154_code 3 = .ok (.ifCond .eq 14, 3) := by decide +kernel
theorem d14_6 : decode jdk_42_method_154_code 6 = .ok (.aload_n 0, 1) := by decide +kernel
theorem d14_7 : decode jdk_42_method_154_code 7 = .ok (.getfield 15, 3) := by decide +kernel
theorem d14_10 : decode jdk_42_method_154_code 10 = .ok (.ifCond .ne 7, 3) := by decide +kernel
theorem d14_13 : decode jdk_42_method_154_code 13 = .ok (.iconst 1, 1) := by decide +kernel
theorem d14_14 : decode jdk_42_method_154_code 14 = .ok (.goto 4, 3) := by decide +kernel
theorem d14_18 : decode jdk_42_method_154_code 18 = .ok (.ireturn, 1) := by decide +kernel
theorem pn_m_lat : plainName "java/lang/String" = true := by first | (simp [plainName, overriddenIn]; done) | decide +kernel
set_option maxRecDepth 65536 in
set_option maxHeartbeats 40000000 in
theorem m_lat (l : Launch) (Z : State) (a0 : Array Value) (hw : ∀ d ∈ tables_1, d.before a0 Z = true) (n0 : Nat) (h0 : Heap) (s : Addr) (cst : Int32) (X0 : Old Z n0 h0) (SC : Sta Z Z.heap "java/lang/String" "COMPACT_STRINGS" "Z" (.int cst)) (hcs : ¬ cst = 0) (Fc : Fld Z h0 s "java/lang/String" "coder" "B" (.int (0 : Int32))) :
    Met l Z (⟨"java/lang/String", "isLatin1", "()Z"⟩ : MethodName) jdk_42_method_154_code 1 (some .boolean) ({ frames := 0, cells := 0, slots := 0, locals := 0 } : Room) n0 [] #[(.ref s)] h0 (fun v h => v = some (.int (1 : Int32)) ∧ h0 = h) := by
  refine Met.intro (Ls := #[.val (.ref s)]) (plainFor_of_name pn_m_lat) hw (fun m => by first | rfl | (simp [entryFrame, mkF, argsToLocals, Value.category]; done)) ?_
  intro w K0
  have K : Cx w Z a0 "java/lang/String" jdk_42_method_154_code 1 (some .boolean) "isLatin1" := K0
  refine Rn.getS K (q := 3) (List.mem_of_getElem? (i := 35) rfl) (SC.ext X0.2) d14_0 rfl ?_
  refine Rn.ifN K (q := 6) d14_3 (XT.i0_eq_f hcs) rfl ?_
  refine Rn.aloadN K (q := 7) d14_6 rfl rfl rfl ?_
  refine Rn.getF K (q := 10) (List.mem_of_getElem? (i := 25) rfl) Via.refl Fc d14_7 rfl ?_
  refine Rn.ifN K (q := 13) d14_10 (XT.i0_ne_f rfl) rfl ?_
  refine Rn.iconst K (q := 14) (1 : Int32) d14_13 rfl rfl ?_
  refine Rn.goto K (q := 18) d14_14 (by decide) (by decide) ?_
  exact Rn.retN K .boolean rfl (by simp) d14_18 (by decide) (by decide) ⟨rfl, rfl⟩
theorem d6_0 : decode jdk_42_method_55_code 0 = .ok (.aload_n 0, 1) := by decide +kernel
theorem d6_1 : decode jdk_42_method_55_code 1 = .ok (.getfield 9, 3) := by decide +kernel
theorem d6_4 : decode jdk_42_method_55_code 4 = .ok (.arraylength, 1) := by decide +kernel
theorem d6_5 : decode jdk_42_method_55_code 5 = .ok (.ifCond .ne 7, 3) := by decide +kernel
theorem d6_8 : decode jdk_42_method_55_code 8 = .ok (.iconst 1, 1) := by decide +kernel
theorem d6_9 : decode jdk_42_method_55_code 9 = .ok (.goto 4, 3) := by decide +kernel
theorem d6_13 : decode jdk_42_method_55_code 13 = .ok (.ireturn, 1) := by decide +kernel
theorem pn_m_emp0 : plainName "java/lang/String" = true := by first | (simp [plainName, overriddenIn]; done) | decide +kernel
set_option maxRecDepth 65536 in
set_option maxHeartbeats 40000000 in
theorem m_emp0 (l : Launch) (Z : State) (a0 : Array Value) (hw : ∀ d ∈ tables_1, d.before a0 Z = true) (n0 : Nat) (h0 : Heap) (s v : Addr) (k : ClassId) (cst : Int32) (X0 : Old Z n0 h0) (SC : Sta Z Z.heap "java/lang/String" "COMPACT_STRINGS" "Z" (.int cst)) (hcs : ¬ cst = 0) (Es : Exa Z h0 s "java/lang/String") (Fc : Fld Z h0 s "java/lang/String" "coder" "B" (.int (0 : Int32))) (Fv : Fld Z h0 s "java/lang/String" "value" "[B" (.ref v)) (Av : Arv Z h0 v k .byte (0 : Int32) [] (.int (0 : Int32))) :
    Met l Z (⟨"java/lang/String", "isEmpty", "()Z"⟩ : MethodName) jdk_42_method_55_code 1 (some .boolean) ({ frames := 0, cells := 0, slots := 0, locals := 0 } : Room) n0 [] #[(.ref s)] h0 (fun v h => v = some (.int (1 : Int32)) ∧ h0 = h) := by
  refine Met.intro (Ls := #[.val (.ref s)]) (plainFor_of_name pn_m_emp0) hw (fun m => by first | rfl | (simp [entryFrame, mkF, argsToLocals, Value.category]; done)) ?_
  intro w K0
  have K : Cx w Z a0 "java/lang/String" jdk_42_method_55_code 1 (some .boolean) "isEmpty" := K0
  refine Rn.aloadN K (q := 1) d6_0 rfl rfl rfl ?_
  refine Rn.getF K (q := 4) (List.mem_of_getElem? (i := 24) rfl) Via.refl Fv d6_1 rfl ?_
  refine Rn.arraylength K (q := 5) Av d6_4 rfl ?_
  refine Rn.ifN K (q := 8) d6_5 (XT.i0_ne_f rfl) rfl ?_
  refine Rn.iconst K (q := 9) (1 : Int32) d6_8 rfl rfl ?_
  refine Rn.goto K (q := 13) d6_9 (by decide) (by decide) ?_
  exact Rn.retN K .boolean rfl (by simp) d6_13 (by decide) (by decide) ⟨rfl, rfl⟩
theorem d5_0 : decode prog_12_method_3_code 0 = .ok (.aload_n 0, 1) := by decide +kernel
theorem d5_1 : decode prog_12_method_3_code 1 = .ok (.invokevirtual 57, 3) := by decide +kernel
theorem d5_4 : decode prog_12_method_3_code 4 = .ok (.ifCond .eq 7, 3) := by decide +kernel
theorem d5_7 : decode prog_12_method_3_code 7 = .ok (.aconst_null, 1) := by decide +kernel
theorem d5_8 : decode prog_12_method_3_code 8 = .ok (.goto 4, 3) := by decide +kernel
theorem d5_12 : decode prog_12_method_3_code 12 = .ok (.areturn, 1) := by decide +kernel
theorem pn_m_orn0 : plainName "com/example/ballast/ballast/Column" = true := by first | (simp [plainName, overriddenIn]; done) | decide +kernel
set_option maxRecDepth 65536 in
set_option maxHeartbeats 40000000 in
theorem m_orn0 (l : Launch) (Z : State) (a0 : Array Value) (hw : ∀ d ∈ tables_1, d.before a0 Z = true) (n0 : Nat) (h0 : Heap) (s v : Addr) (k : ClassId) (cst : Int32) (X0 : Old Z n0 h0) (SC : Sta Z Z.heap "java/lang/String" "COMPACT_STRINGS" "Z" (.int cst)) (hcs : ¬ cst = 0) (Es : Exa Z h0 s "java/lang/String") (Fc : Fld Z h0 s "java/lang/String" "coder" "B" (.int (0 : Int32))) (Fv : Fld Z h0 s "java/lang/String" "value" "[B" (.ref v)) (Av : Arv Z h0 v k .byte (0 : Int32) [] (.int (0 : Int32))) :
    Met l Z (⟨"com/example/ballast/ballast/Column", "orNone", "(Ljava/lang/String;)Ljava/lang/String;"⟩ : MethodName) prog_12_method_3_code 1 (some (.object "java/lang/String")) ({ frames := 1, cells := 0, slots := 0, locals := 12 } : Room) n0 [] #[(.ref s)] h0 (fun v h => v = some .null ∧ h0 = h) := by
  refine Met.intro (Ls := #[.val (.ref s)]) (plainFor_of_name pn_m_orn0) hw (fun m => by first | rfl | (simp [entryFrame, mkF, argsToLocals, Value.category]; done)) ?_
  intro w K0
  have K : Cx w Z a0 "com/example/ballast/ballast/Column" prog_12_method_3_code 1 (some (.object "java/lang/String")) "orNone" := K0
  refine Rn.aloadN K (q := 1) d5_0 rfl rfl rfl ?_
  refine Rn.virt K (q := 4) (W := 0) (y := (⟨"java/lang/String", "isEmpty", "()Z"⟩ : MethodName)) (z := (⟨"java/lang/String", "isEmpty", "()Z"⟩ : MethodName)) (b := s) (argsL := []) (rest := []) (List.mem_of_getElem? (i := 30) rfl) (List.mem_of_getElem? (i := 31) rfl) (nfs K (List.mem_of_getElem? (i := 33) rfl)) (List.mem_of_getElem? (i := 33) rfl) (List.mem_of_getElem? (i := 32) rfl) (List.mem_of_getElem? (i := 34) rfl) (List.mem_of_getElem? (i := 6) rfl) (by decide) (m_emp0 l Z a0 hw n0 h0 s v k cst  X0 SC hcs Es Fc Fv Av) Es (by decide) (by decide) rfl (lenOf pd_0 rfl) rfl (Nat.le_of_ble_eq_true rfl) d5_1 rfl (by decide) (by decide) ?_
  rintro _ _ ⟨rfl, rfl⟩
  show Rn w l _ n0 _ 4 #[.val (.ref s)] [(.int (1 : Int32))] h0 0 0
  refine Rn.ifN K (q := 7) d5_4 (XT.i0_eq_f (by decide)) rfl ?_
  refine Rn.aconst_null K (q := 8) d5_7 rfl ?_
  refine Rn.goto K (q := 12) d5_8 (by decide) (by decide) ?_
  exact Rn.retA K (.object "java/lang/String") rfl rfl rfl d5_12 (by decide) (by decide) ⟨rfl, rfl⟩
theorem d6_12 : decode jdk_42_method_55_code 12 = .ok (.iconst 0, 1) := by decide +kernel
theorem pn_m_emp1 : plainName "java/lang/String" = true := by first | (simp [plainName, overriddenIn]; done) | decide +kernel
set_option maxRecDepth 65536 in
set_option maxHeartbeats 40000000 in
theorem m_emp1 (l : Launch) (Z : State) (a0 : Array Value) (hw : ∀ d ∈ tables_1, d.before a0 Z = true) (n0 : Nat) (h0 : Heap) (s v : Addr) (k : ClassId) (cst : Int32) (x0 : Int32) (X0 : Old Z n0 h0) (SC : Sta Z Z.heap "java/lang/String" "COMPACT_STRINGS" "Z" (.int cst)) (hcs : ¬ cst = 0) (Es : Exa Z h0 s "java/lang/String") (Fc : Fld Z h0 s "java/lang/String" "coder" "B" (.int (0 : Int32))) (Fv : Fld Z h0 s "java/lang/String" "value" "[B" (.ref v)) (Av : Arv Z h0 v k .byte (1 : Int32) [(.int x0)] (.int (0 : Int32))) :
    Met l Z (⟨"java/lang/String", "isEmpty", "()Z"⟩ : MethodName) jdk_42_method_55_code 1 (some .boolean) ({ frames := 0, cells := 0, slots := 0, locals := 0 } : Room) n0 [] #[(.ref s)] h0 (fun v h => v = some (.int (0 : Int32)) ∧ h0 = h) := by
  refine Met.intro (Ls := #[.val (.ref s)]) (plainFor_of_name pn_m_emp1) hw (fun m => by first | rfl | (simp [entryFrame, mkF, argsToLocals, Value.category]; done)) ?_
  intro w K0
  have K : Cx w Z a0 "java/lang/String" jdk_42_method_55_code 1 (some .boolean) "isEmpty" := K0
  refine Rn.aloadN K (q := 1) d6_0 rfl rfl rfl ?_
  refine Rn.getF K (q := 4) (List.mem_of_getElem? (i := 24) rfl) Via.refl Fv d6_1 rfl ?_
  refine Rn.arraylength K (q := 5) Av d6_4 rfl ?_
  refine Rn.ifY K (q := 12) d6_5 (XT.i0_ne_t (by decide)) (by decide) (by decide) ?_
  refine Rn.iconst K (q := 13) (0 : Int32) d6_12 rfl rfl ?_
  exact Rn.retN K .boolean rfl (by simp) d6_13 (by decide) (by decide) ⟨rfl, rfl⟩
theorem d5_11 : decode prog_12_method_3_code 11 = .ok (.aload_n 0, 1) := by decide +kernel
theorem pn_m_orn1 : plainName "com/example/ballast/ballast/Column" = true := by first | (simp [plainName, overriddenIn]; done) | decide +kernel
set_option maxRecDepth 65536 in
set_option maxHeartbeats 40000000 in
theorem m_orn1 (l : Launch) (Z : State) (a0 : Array Value) (hw : ∀ d ∈ tables_1, d.before a0 Z = true) (n0 : Nat) (h0 : Heap) (s v : Addr) (k : ClassId) (cst : Int32) (x0 : Int32) (X0 : Old Z n0 h0) (SC : Sta Z Z.heap "java/lang/String" "COMPACT_STRINGS" "Z" (.int cst)) (hcs : ¬ cst = 0) (Es : Exa Z h0 s "java/lang/String") (Fc : Fld Z h0 s "java/lang/String" "coder" "B" (.int (0 : Int32))) (Fv : Fld Z h0 s "java/lang/String" "value" "[B" (.ref v)) (Av : Arv Z h0 v k .byte (1 : Int32) [(.int x0)] (.int (0 : Int32))) :
    Met l Z (⟨"com/example/ballast/ballast/Column", "orNone", "(Ljava/lang/String;)Ljava/lang/String;"⟩ : MethodName) prog_12_method_3_code 1 (some (.object "java/lang/String")) ({ frames := 1, cells := 0, slots := 0, locals := 12 } : Room) n0 [] #[(.ref s)] h0 (fun v h => v = some (.ref s) ∧ h0 = h) := by
  refine Met.intro (Ls := #[.val (.ref s)]) (plainFor_of_name pn_m_orn1) hw (fun m => by first | rfl | (simp [entryFrame, mkF, argsToLocals, Value.category]; done)) ?_
  intro w K0
  have K : Cx w Z a0 "com/example/ballast/ballast/Column" prog_12_method_3_code 1 (some (.object "java/lang/String")) "orNone" := K0
  refine Rn.aloadN K (q := 1) d5_0 rfl rfl rfl ?_
  refine Rn.virt K (q := 4) (W := 0) (y := (⟨"java/lang/String", "isEmpty", "()Z"⟩ : MethodName)) (z := (⟨"java/lang/String", "isEmpty", "()Z"⟩ : MethodName)) (b := s) (argsL := []) (rest := []) (List.mem_of_getElem? (i := 30) rfl) (List.mem_of_getElem? (i := 31) rfl) (nfs K (List.mem_of_getElem? (i := 33) rfl)) (List.mem_of_getElem? (i := 33) rfl) (List.mem_of_getElem? (i := 32) rfl) (List.mem_of_getElem? (i := 34) rfl) (List.mem_of_getElem? (i := 6) rfl) (by decide) (m_emp1 l Z a0 hw n0 h0 s v k cst x0 X0 SC hcs Es Fc Fv Av) Es (by decide) (by decide) rfl (lenOf pd_0 rfl) rfl (Nat.le_of_ble_eq_true rfl) d5_1 rfl (by decide) (by decide) ?_
  rintro _ _ ⟨rfl, rfl⟩
  show Rn w l _ n0 _ 4 #[.val (.ref s)] [(.int (0 : Int32))] h0 0 0
  refine Rn.ifY K (q := 11) d5_4 (XT.i0_eq_t rfl) (by decide) (by decide) ?_
  refine Rn.aloadN K (q := 12) d5_11 rfl rfl rfl ?_
  exact Rn.retA K (.object "java/lang/String") rfl rfl rfl d5_12 (by decide) (by decide) ⟨rfl, rfl⟩
theorem d10_0 : decode jdk_42_method_54_code 0 = .ok (.aload_n 0, 1) := by decide +kernel
theorem d10_1 : decode jdk_42_method_54_code 1 = .ok (.getfield 9, 3) := by decide +kernel
theorem d10_4 : decode jdk_42_method_54_code 4 = .ok (.arraylength, 1) := by decide +kernel
theorem d10_5 : decode jdk_42_method_54_code 5 = .ok (.aload_n 0, 1) := by decide +kernel
theorem d10_6 : decode jdk_42_method_54_code 6 = .ok (.invokevirtual 335, 3) := by decide +kernel
theorem d10_9 : decode jdk_42_method_54_code 9 = .ok (.ishr, 1) := by decide +kernel
theorem d10_10 : decode jdk_42_method_54_code 10 = .ok (.ireturn, 1) := by decide +kernel
theorem pn_m_len1 : plainName "java/lang/String" = true := by first | (simp [plainName, overriddenIn]; done) | decide +kernel
set_option maxRecDepth 65536 in
set_option maxHeartbeats 40000000 in
theorem m_len1 (l : Launch) (Z : State) (a0 : Array Value) (hw : ∀ d ∈ tables_1, d.before a0 Z = true) (n0 : Nat) (h0 : Heap) (s v : Addr) (k : ClassId) (cst : Int32) (x0 : Int32) (X0 : Old Z n0 h0) (SC : Sta Z Z.heap "java/lang/String" "COMPACT_STRINGS" "Z" (.int cst)) (hcs : ¬ cst = 0) (Es : Exa Z h0 s "java/lang/String") (Fc : Fld Z h0 s "java/lang/String" "coder" "B" (.int (0 : Int32))) (Fv : Fld Z h0 s "java/lang/String" "value" "[B" (.ref v)) (Av : Arv Z h0 v k .byte (1 : Int32) [(.int x0)] (.int (0 : Int32))) :
    Met l Z (⟨"java/lang/String", "length", "()I"⟩ : MethodName) jdk_42_method_54_code 1 (some .int) ({ frames := 1, cells := 0, slots := 0, locals := 13 } : Room) n0 [] #[(.ref s)] h0 (fun v h => v = some (.int (1 : Int32)) ∧ h0 = h) := by
  refine Met.intro (Ls := #[.val (.ref s)]) (plainFor_of_name pn_m_len1) hw (fun m => by first | rfl | (simp [entryFrame, mkF, argsToLocals, Value.category]; done)) ?_
  intro w K0
  have K : Cx w Z a0 "java/lang/String" jdk_42_method_54_code 1 (some .int) "length" := K0
  refine Rn.aloadN K (q := 1) d10_0 rfl rfl rfl ?_
  refine Rn.getF K (q := 4) (List.mem_of_getElem? (i := 24) rfl) Via.refl Fv d10_1 rfl ?_
  refine Rn.arraylength K (q := 5) Av d10_4 rfl ?_
  refine Rn.aloadN K (q := 6) d10_5 rfl rfl rfl ?_
  refine Rn.virt K (q := 9) (W := 1) (y := (⟨"java/lang/String", "coder", "()B"⟩ : MethodName)) (z := (⟨"java/lang/String", "coder", "()B"⟩ : MethodName)) (b := s) (argsL := []) (rest := [(.int (1 : Int32))]) (List.mem_of_getElem? (i := 51) rfl) (List.mem_of_getElem? (i := 52) rfl) (nfs K (List.mem_of_getElem? (i := 54) rfl)) (List.mem_of_getElem? (i := 54) rfl) (List.mem_of_getElem? (i := 53) rfl) (List.mem_of_getElem? (i := 55) rfl) (List.mem_of_getElem? (i := 6) rfl) (by decide) (m_coder l Z a0 hw n0 h0 s cst X0 SC hcs Fc) Es (by decide) (by decide) rfl (lenOf pd_1 rfl) rfl (Nat.le_of_ble_eq_true rfl) d10_6 rfl (by decide) (by decide) ?_
  rintro _ _ ⟨rfl, rfl⟩
  show Rn w l _ n0 _ 9 #[.val (.ref s)] [(.int (0 : Int32)), (.int (1 : Int32))] h0 0 0
  refine Rn.ishr K (q := 10) d10_9 rfl ?_
  exact Rn.retI K rfl d10_10 (by decide) (by decide) ⟨by rw [show ((1 : Int32) >>> ((0 : Int32) &&& 31)) = (1 : Int32) from by decide], rfl⟩
theorem pn_m_emp2 : plainName "java/lang/String" = true := by first | (simp [plainName, overriddenIn]; done) | decide +kernel
set_option maxRecDepth 65536 in
set_option maxHeartbeats 40000000 in
theorem m_emp2 (l : Launch) (Z : State) (a0 : Array Value) (hw : ∀ d ∈ tables_1, d.before a0 Z = true) (n0 : Nat) (h0 : Heap) (s v : Addr) (k : ClassId) (cst : Int32) (x0 x1 : Int32) (X0 : Old Z n0 h0) (SC : Sta Z Z.heap "java/lang/String" "COMPACT_STRINGS" "Z" (.int cst)) (hcs : ¬ cst = 0) (Es : Exa Z h0 s "java/lang/String") (Fc : Fld Z h0 s "java/lang/String" "coder" "B" (.int (0 : Int32))) (Fv : Fld Z h0 s "java/lang/String" "value" "[B" (.ref v)) (Av : Arv Z h0 v k .byte (2 : Int32) [(.int x0), (.int x1)] (.int (0 : Int32))) :
    Met l Z (⟨"java/lang/String", "isEmpty", "()Z"⟩ : MethodName) jdk_42_method_55_code 1 (some .boolean) ({ frames := 0, cells := 0, slots := 0, locals := 0 } : Room) n0 [] #[(.ref s)] h0 (fun v h => v = some (.int (0 : Int32)) ∧ h0 = h) := by
  refine Met.intro (Ls := #[.val (.ref s)]) (plainFor_of_name pn_m_emp2) hw (fun m => by first | rfl | (simp [entryFrame, mkF, argsToLocals, Value.category]; done)) ?_
  intro w K0
  have K : Cx w Z a0 "java/lang/String" jdk_42_method_55_code 1 (some .boolean) "isEmpty" := K0
  refine Rn.aloadN K (q := 1) d6_0 rfl rfl rfl ?_
  refine Rn.getF K (q := 4) (List.mem_of_getElem? (i := 24) rfl) Via.refl Fv d6_1 rfl ?_
  refine Rn.arraylength K (q := 5) Av d6_4 rfl ?_
  refine Rn.ifY K (q := 12) d6_5 (XT.i0_ne_t (by decide)) (by decide) (by decide) ?_
  refine Rn.iconst K (q := 13) (0 : Int32) d6_12 rfl rfl ?_
  exact Rn.retN K .boolean rfl (by simp) d6_13 (by decide) (by decide) ⟨rfl, rfl⟩
theorem pn_m_orn2 : plainName "com/example/ballast/ballast/Column" = true := by first | (simp [plainName, overriddenIn]; done) | decide +kernel
set_option maxRecDepth 65536 in
set_option maxHeartbeats 40000000 in
theorem m_orn2 (l : Launch) (Z : State) (a0 : Array Value) (hw : ∀ d ∈ tables_1, d.before a0 Z = true) (n0 : Nat) (h0 : Heap) (s v : Addr) (k : ClassId) (cst : Int32) (x0 x1 : Int32) (X0 : Old Z n0 h0) (SC : Sta Z Z.heap "java/lang/String" "COMPACT_STRINGS" "Z" (.int cst)) (hcs : ¬ cst = 0) (Es : Exa Z h0 s "java/lang/String") (Fc : Fld Z h0 s "java/lang/String" "coder" "B" (.int (0 : Int32))) (Fv : Fld Z h0 s "java/lang/String" "value" "[B" (.ref v)) (Av : Arv Z h0 v k .byte (2 : Int32) [(.int x0), (.int x1)] (.int (0 : Int32))) :
    Met l Z (⟨"com/example/ballast/ballast/Column", "orNone", "(Ljava/lang/String;)Ljava/lang/String;"⟩ : MethodName) prog_12_method_3_code 1 (some (.object "java/lang/String")) ({ frames := 1, cells := 0, slots := 0, locals := 12 } : Room) n0 [] #[(.ref s)] h0 (fun v h => v = some (.ref s) ∧ h0 = h) := by
  refine Met.intro (Ls := #[.val (.ref s)]) (plainFor_of_name pn_m_orn2) hw (fun m => by first | rfl | (simp [entryFrame, mkF, argsToLocals, Value.category]; done)) ?_
  intro w K0
  have K : Cx w Z a0 "com/example/ballast/ballast/Column" prog_12_method_3_code 1 (some (.object "java/lang/String")) "orNone" := K0
  refine Rn.aloadN K (q := 1) d5_0 rfl rfl rfl ?_
  refine Rn.virt K (q := 4) (W := 0) (y := (⟨"java/lang/String", "isEmpty", "()Z"⟩ : MethodName)) (z := (⟨"java/lang/String", "isEmpty", "()Z"⟩ : MethodName)) (b := s) (argsL := []) (rest := []) (List.mem_of_getElem? (i := 30) rfl) (List.mem_of_getElem? (i := 31) rfl) (nfs K (List.mem_of_getElem? (i := 33) rfl)) (List.mem_of_getElem? (i := 33) rfl) (List.mem_of_getElem? (i := 32) rfl) (List.mem_of_getElem? (i := 34) rfl) (List.mem_of_getElem? (i := 6) rfl) (by decide) (m_emp2 l Z a0 hw n0 h0 s v k cst x0 x1 X0 SC hcs Es Fc Fv Av) Es (by decide) (by decide) rfl (lenOf pd_0 rfl) rfl (Nat.le_of_ble_eq_true rfl) d5_1 rfl (by decide) (by decide) ?_
  rintro _ _ ⟨rfl, rfl⟩
  show Rn w l _ n0 _ 4 #[.val (.ref s)] [(.int (0 : Int32))] h0 0 0
  refine Rn.ifY K (q := 11) d5_4 (XT.i0_eq_t rfl) (by decide) (by decide) ?_
  refine Rn.aloadN K (q := 12) d5_11 rfl rfl rfl ?_
  exact Rn.retA K (.object "java/lang/String") rfl rfl rfl d5_12 (by decide) (by decide) ⟨rfl, rfl⟩
theorem pn_m_len2 : plainName "java/lang/String" = true := by first | (simp [plainName, overriddenIn]; done) | decide +kernel
set_option maxRecDepth 65536 in
set_option maxHeartbeats 40000000 in
theorem m_len2 (l : Launch) (Z : State) (a0 : Array Value) (hw : ∀ d ∈ tables_1, d.before a0 Z = true) (n0 : Nat) (h0 : Heap) (s v : Addr) (k : ClassId) (cst : Int32) (x0 x1 : Int32) (X0 : Old Z n0 h0) (SC : Sta Z Z.heap "java/lang/String" "COMPACT_STRINGS" "Z" (.int cst)) (hcs : ¬ cst = 0) (Es : Exa Z h0 s "java/lang/String") (Fc : Fld Z h0 s "java/lang/String" "coder" "B" (.int (0 : Int32))) (Fv : Fld Z h0 s "java/lang/String" "value" "[B" (.ref v)) (Av : Arv Z h0 v k .byte (2 : Int32) [(.int x0), (.int x1)] (.int (0 : Int32))) :
    Met l Z (⟨"java/lang/String", "length", "()I"⟩ : MethodName) jdk_42_method_54_code 1 (some .int) ({ frames := 1, cells := 0, slots := 0, locals := 13 } : Room) n0 [] #[(.ref s)] h0 (fun v h => v = some (.int (2 : Int32)) ∧ h0 = h) := by
  refine Met.intro (Ls := #[.val (.ref s)]) (plainFor_of_name pn_m_len2) hw (fun m => by first | rfl | (simp [entryFrame, mkF, argsToLocals, Value.category]; done)) ?_
  intro w K0
  have K : Cx w Z a0 "java/lang/String" jdk_42_method_54_code 1 (some .int) "length" := K0
  refine Rn.aloadN K (q := 1) d10_0 rfl rfl rfl ?_
  refine Rn.getF K (q := 4) (List.mem_of_getElem? (i := 24) rfl) Via.refl Fv d10_1 rfl ?_
  refine Rn.arraylength K (q := 5) Av d10_4 rfl ?_
  refine Rn.aloadN K (q := 6) d10_5 rfl rfl rfl ?_
  refine Rn.virt K (q := 9) (W := 1) (y := (⟨"java/lang/String", "coder", "()B"⟩ : MethodName)) (z := (⟨"java/lang/String", "coder", "()B"⟩ : MethodName)) (b := s) (argsL := []) (rest := [(.int (2 : Int32))]) (List.mem_of_getElem? (i := 51) rfl) (List.mem_of_getElem? (i := 52) rfl) (nfs K (List.mem_of_getElem? (i := 54) rfl)) (List.mem_of_getElem? (i := 54) rfl) (List.mem_of_getElem? (i := 53) rfl) (List.mem_of_getElem? (i := 55) rfl) (List.mem_of_getElem? (i := 6) rfl) (by decide) (m_coder l Z a0 hw n0 h0 s cst X0 SC hcs Fc) Es (by decide) (by decide) rfl (lenOf pd_1 rfl) rfl (Nat.le_of_ble_eq_true rfl) d10_6 rfl (by decide) (by decide) ?_
  rintro _ _ ⟨rfl, rfl⟩
  show Rn w l _ n0 _ 9 #[.val (.ref s)] [(.int (0 : Int32)), (.int (2 : Int32))] h0 0 0
  refine Rn.ishr K (q := 10) d10_9 rfl ?_
  exact Rn.retI K rfl d10_10 (by decide) (by decide) ⟨by rw [show ((2 : Int32) >>> ((0 : Int32) &&& 31)) = (2 : Int32) from by decide], rfl⟩
theorem pn_m_emp3 : plainName "java/lang/String" = true := by first | (simp [plainName, overriddenIn]; done) | decide +kernel
set_option maxRecDepth 65536 in
set_option maxHeartbeats 40000000 in
theorem m_emp3 (l : Launch) (Z : State) (a0 : Array Value) (hw : ∀ d ∈ tables_1, d.before a0 Z = true) (n0 : Nat) (h0 : Heap) (s v : Addr) (k : ClassId) (cst : Int32) (x0 x1 x2 : Int32) (X0 : Old Z n0 h0) (SC : Sta Z Z.heap "java/lang/String" "COMPACT_STRINGS" "Z" (.int cst)) (hcs : ¬ cst = 0) (Es : Exa Z h0 s "java/lang/String") (Fc : Fld Z h0 s "java/lang/String" "coder" "B" (.int (0 : Int32))) (Fv : Fld Z h0 s "java/lang/String" "value" "[B" (.ref v)) (Av : Arv Z h0 v k .byte (3 : Int32) [(.int x0), (.int x1), (.int x2)] (.int (0 : Int32))) :
    Met l Z (⟨"java/lang/String", "isEmpty", "()Z"⟩ : MethodName) jdk_42_method_55_code 1 (some .boolean) ({ frames := 0, cells := 0, slots := 0, locals := 0 } : Room) n0 [] #[(.ref s)] h0 (fun v h => v = some (.int (0 : Int32)) ∧ h0 = h) := by
  refine Met.intro (Ls := #[.val (.ref s)]) (plainFor_of_name pn_m_emp3) hw (fun m => by first | rfl | (simp [entryFrame, mkF, argsToLocals, Value.category]; done)) ?_
  intro w K0
  have K : Cx w Z a0 "java/lang/String" jdk_42_method_55_code 1 (some .boolean) "isEmpty" := K0
  refine Rn.aloadN K (q := 1) d6_0 rfl rfl rfl ?_
  refine Rn.getF K (q := 4) (List.mem_of_getElem? (i := 24) rfl) Via.refl Fv d6_1 rfl ?_
  refine Rn.arraylength K (q := 5) Av d6_4 rfl ?_
  refine Rn.ifY K (q := 12) d6_5 (XT.i0_ne_t (by decide)) (by decide) (by decide) ?_
  refine Rn.iconst K (q := 13) (0 : Int32) d6_12 rfl rfl ?_
  exact Rn.retN K .boolean rfl (by simp) d6_13 (by decide) (by decide) ⟨rfl, rfl⟩
theorem pn_m_orn3 : plainName "com/example/ballast/ballast/Column" = true := by first | (simp [plainName, overriddenIn]; done) | decide +kernel
set_option maxRecDepth 65536 in
set_option maxHeartbeats 40000000 in
theorem m_orn3 (l : Launch) (Z : State) (a0 : Array Value) (hw : ∀ d ∈ tables_1, d.before a0 Z = true) (n0 : Nat) (h0 : Heap) (s v : Addr) (k : ClassId) (cst : Int32) (x0 x1 x2 : Int32) (X0 : Old Z n0 h0) (SC : Sta Z Z.heap "java/lang/String" "COMPACT_STRINGS" "Z" (.int cst)) (hcs : ¬ cst = 0) (Es : Exa Z h0 s "java/lang/String") (Fc : Fld Z h0 s "java/lang/String" "coder" "B" (.int (0 : Int32))) (Fv : Fld Z h0 s "java/lang/String" "value" "[B" (.ref v)) (Av : Arv Z h0 v k .byte (3 : Int32) [(.int x0), (.int x1), (.int x2)] (.int (0 : Int32))) :
    Met l Z (⟨"com/example/ballast/ballast/Column", "orNone", "(Ljava/lang/String;)Ljava/lang/String;"⟩ : MethodName) prog_12_method_3_code 1 (some (.object "java/lang/String")) ({ frames := 1, cells := 0, slots := 0, locals := 12 } : Room) n0 [] #[(.ref s)] h0 (fun v h => v = some (.ref s) ∧ h0 = h) := by
  refine Met.intro (Ls := #[.val (.ref s)]) (plainFor_of_name pn_m_orn3) hw (fun m => by first | rfl | (simp [entryFrame, mkF, argsToLocals, Value.category]; done)) ?_
  intro w K0
  have K : Cx w Z a0 "com/example/ballast/ballast/Column" prog_12_method_3_code 1 (some (.object "java/lang/String")) "orNone" := K0
  refine Rn.aloadN K (q := 1) d5_0 rfl rfl rfl ?_
  refine Rn.virt K (q := 4) (W := 0) (y := (⟨"java/lang/String", "isEmpty", "()Z"⟩ : MethodName)) (z := (⟨"java/lang/String", "isEmpty", "()Z"⟩ : MethodName)) (b := s) (argsL := []) (rest := []) (List.mem_of_getElem? (i := 30) rfl) (List.mem_of_getElem? (i := 31) rfl) (nfs K (List.mem_of_getElem? (i := 33) rfl)) (List.mem_of_getElem? (i := 33) rfl) (List.mem_of_getElem? (i := 32) rfl) (List.mem_of_getElem? (i := 34) rfl) (List.mem_of_getElem? (i := 6) rfl) (by decide) (m_emp3 l Z a0 hw n0 h0 s v k cst x0 x1 x2 X0 SC hcs Es Fc Fv Av) Es (by decide) (by decide) rfl (lenOf pd_0 rfl) rfl (Nat.le_of_ble_eq_true rfl) d5_1 rfl (by decide) (by decide) ?_
  rintro _ _ ⟨rfl, rfl⟩
  show Rn w l _ n0 _ 4 #[.val (.ref s)] [(.int (0 : Int32))] h0 0 0
  refine Rn.ifY K (q := 11) d5_4 (XT.i0_eq_t rfl) (by decide) (by decide) ?_
  refine Rn.aloadN K (q := 12) d5_11 rfl rfl rfl ?_
  exact Rn.retA K (.object "java/lang/String") rfl rfl rfl d5_12 (by decide) (by decide) ⟨rfl, rfl⟩
theorem pn_m_len3 : plainName "java/lang/String" = true := by first | (simp [plainName, overriddenIn]; done) | decide +kernel
set_option maxRecDepth 65536 in
set_option maxHeartbeats 40000000 in
theorem m_len3 (l : Launch) (Z : State) (a0 : Array Value) (hw : ∀ d ∈ tables_1, d.before a0 Z = true) (n0 : Nat) (h0 : Heap) (s v : Addr) (k : ClassId) (cst : Int32) (x0 x1 x2 : Int32) (X0 : Old Z n0 h0) (SC : Sta Z Z.heap "java/lang/String" "COMPACT_STRINGS" "Z" (.int cst)) (hcs : ¬ cst = 0) (Es : Exa Z h0 s "java/lang/String") (Fc : Fld Z h0 s "java/lang/String" "coder" "B" (.int (0 : Int32))) (Fv : Fld Z h0 s "java/lang/String" "value" "[B" (.ref v)) (Av : Arv Z h0 v k .byte (3 : Int32) [(.int x0), (.int x1), (.int x2)] (.int (0 : Int32))) :
    Met l Z (⟨"java/lang/String", "length", "()I"⟩ : MethodName) jdk_42_method_54_code 1 (some .int) ({ frames := 1, cells := 0, slots := 0, locals := 13 } : Room) n0 [] #[(.ref s)] h0 (fun v h => v = some (.int (3 : Int32)) ∧ h0 = h) := by
  refine Met.intro (Ls := #[.val (.ref s)]) (plainFor_of_name pn_m_len3) hw (fun m => by first | rfl | (simp [entryFrame, mkF, argsToLocals, Value.category]; done)) ?_
  intro w K0
  have K : Cx w Z a0 "java/lang/String" jdk_42_method_54_code 1 (some .int) "length" := K0
  refine Rn.aloadN K (q := 1) d10_0 rfl rfl rfl ?_
  refine Rn.getF K (q := 4) (List.mem_of_getElem? (i := 24) rfl) Via.refl Fv d10_1 rfl ?_
  refine Rn.arraylength K (q := 5) Av d10_4 rfl ?_
  refine Rn.aloadN K (q := 6) d10_5 rfl rfl rfl ?_
  refine Rn.virt K (q := 9) (W := 1) (y := (⟨"java/lang/String", "coder", "()B"⟩ : MethodName)) (z := (⟨"java/lang/String", "coder", "()B"⟩ : MethodName)) (b := s) (argsL := []) (rest := [(.int (3 : Int32))]) (List.mem_of_getElem? (i := 51) rfl) (List.mem_of_getElem? (i := 52) rfl) (nfs K (List.mem_of_getElem? (i := 54) rfl)) (List.mem_of_getElem? (i := 54) rfl) (List.mem_of_getElem? (i := 53) rfl) (List.mem_of_getElem? (i := 55) rfl) (List.mem_of_getElem? (i := 6) rfl) (by decide) (m_coder l Z a0 hw n0 h0 s cst X0 SC hcs Fc) Es (by decide) (by decide) rfl (lenOf pd_1 rfl) rfl (Nat.le_of_ble_eq_true rfl) d10_6 rfl (by decide) (by decide) ?_
  rintro _ _ ⟨rfl, rfl⟩
  show Rn w l _ n0 _ 9 #[.val (.ref s)] [(.int (0 : Int32)), (.int (3 : Int32))] h0 0 0
  refine Rn.ishr K (q := 10) d10_9 rfl ?_
  exact Rn.retI K rfl d10_10 (by decide) (by decide) ⟨by rw [show ((3 : Int32) >>> ((0 : Int32) &&& 31)) = (3 : Int32) from by decide], rfl⟩
theorem d12_0 : decode jdk_42_method_66_code 0 = .ok (.aload_n 0, 1) := by decide +kernel
theorem d12_1 : decode jdk_42_method_66_code 1 = .ok (.aload_n 1, 1) := by decide +kernel
theorem d12_2 : decode jdk_42_method_66_code 2 = .ok (.if_acmp .ne 5, 3) := by decide +kernel
theorem d12_5 : decode jdk_42_method_66_code 5 = .ok (.iconst 1, 1) := by decide +kernel
theorem d12_6 : decode jdk_42_method_66_code 6 = .ok (.ireturn, 1) := by decide +kernel
theorem pn_m_eq : plainName "java/lang/String" = true := by first | (simp [plainName, overriddenIn]; done) | decide +kernel
set_option maxRecDepth 65536 in
set_option maxHeartbeats 40000000 in
theorem m_eq (l : Launch) (Z : State) (a0 : Array Value) (hw : ∀ d ∈ tables_1, d.before a0 Z = true) (n0 : Nat) (h0 : Heap) (s : Addr) (X0 : Old Z n0 h0) :
    Met l Z (⟨"java/lang/String", "equals", "(Ljava/lang/Object;)Z"⟩ : MethodName) jdk_42_method_66_code 3 (some .boolean) ({ frames := 0, cells := 0, slots := 0, locals := 0 } : Room) n0 [] #[(.ref s), (.ref s)] h0 (fun v h => v = some (.int (1 : Int32)) ∧ h0 = h) := by
  refine Met.intro (Ls := #[.val (.ref s), .val (.ref s), .unset]) (plainFor_of_name pn_m_eq) hw (fun m => by first | rfl | (simp [entryFrame, mkF, argsToLocals, Value.category]; done)) ?_
  intro w K0
  have K : Cx w Z a0 "java/lang/String" jdk_42_method_66_code 3 (some .boolean) "equals" := K0
  refine Rn.aloadN K (q := 1) d12_0 rfl rfl rfl ?_
  refine Rn.aloadN K (q := 2) d12_1 rfl rfl rfl ?_
  refine Rn.acN K (q := 5) d12_2 rfl rfl (XT.aa_ne_f rfl) rfl ?_
  refine Rn.iconst K (q := 6) (1 : Int32) d12_5 rfl rfl ?_
  exact Rn.retN K .boolean rfl (by simp) d12_6 (by decide) (by decide) ⟨rfl, rfl⟩
theorem d17_0 : decode jdk_41_method_11_code 0 = .ok (.iload_n 0, 1) := by decide +kernel
theorem d17_1 : decode jdk_41_method_11_code 1 = .ok (.ifCond .lt 8, 3) := by decide +kernel
theorem d17_4 : decode jdk_41_method_11_code 4 = .ok (.iload_n 0, 1) := by decide +kernel
theorem d17_5 : decode jdk_41_method_11_code 5 = .ok (.iload_n 1, 1) := by decide +kernel
theorem d17_6 : decode jdk_41_method_11_code 6 = .ok (.if_icmp .lt 10, 3) := by decide +kernel
theorem d17_16 : decode jdk_41_method_11_code 16 = .ok (.iload_n 0, 1) := by decide +kernel
theorem d17_17 : decode jdk_41_method_11_code 17 = .ok (.ireturn, 1) := by decide +kernel
theorem pn_m_pci10 : plainName "jdk/internal/util/Preconditions" = true := by first | (simp [plainName, overriddenIn]; done) | decide +kernel
set_option maxRecDepth 65536 in
set_option maxHeartbeats 40000000 in
theorem m_pci10 (l : Launch) (Z : State) (a0 : Array Value) (hw : ∀ d ∈ tables_1, d.before a0 Z = true) (n0 : Nat) (h0 : Heap) (fv : Value) (hfv : fv.isRef = true) (X0 : Old Z n0 h0) :
    Met l Z (⟨"jdk/internal/util/Preconditions", "checkIndex", "(IILjava/util/function/BiFunction;)I"⟩ : MethodName) jdk_41_method_11_code 3 (some .int) ({ frames := 0, cells := 0, slots := 0, locals := 0 } : Room) n0 [] #[(.int (0 : Int32)), (.int (1 : Int32)), fv] h0 (fun v h => v = some (.int (0 : Int32)) ∧ h0 = h) := by
  refine Met.intro (Ls := #[.val (.int (0 : Int32)), .val (.int (1 : Int32)), .val fv]) (plainFor_of_name pn_m_pci10) hw (fun m => by (rcases XT.refc hfv with qfv | ⟨_, qfv⟩ <;> rw [qfv]) <;> rfl) ?_
  intro w K0
  have K : Cx w Z a0 "jdk/internal/util/Preconditions" jdk_41_method_11_code 3 (some .int) "checkIndex" := K0
  refine Rn.iloadN K (q := 1) d17_0 rfl rfl ?_
  refine Rn.ifN K (q := 4) d17_1 (XT.i0_lt_f (by decide)) rfl ?_
  refine Rn.iloadN K (q := 5) d17_4 rfl rfl ?_
  refine Rn.iloadN K (q := 6) d17_5 rfl rfl ?_
  refine Rn.icY K (q := 16) d17_6 (XT.ii_lt_t (by decide)) (by decide) (by decide) ?_
  refine Rn.iloadN K (q := 17) d17_16 rfl rfl ?_
  exact Rn.retI K rfl d17_17 (by decide) (by decide) ⟨rfl, rfl⟩
theorem d16_0 : decode jdk_42_method_155_code 0 = .ok (.iload_n 0, 1) := by decide +kernel
theorem d16_1 : decode jdk_42_method_155_code 1 = .ok (.iload_n 1, 1) := by decide +kernel
theorem d16_2 : decode jdk_42_method_155_code 2 = .ok (.getstatic 1053, 3) := by decide +kernel
theorem d16_5 : decode jdk_42_method_155_code 5 = .ok (.invokestatic 1059, 3) := by decide +kernel
theorem d16_8 : decode jdk_42_method_155_code 8 = .ok (.pop, 1) := by decide +kernel
theorem d16_9 : decode jdk_42_method_155_code 9 = .ok (.return_, 1) := by decide +kernel
theorem pn_m_cki10 : plainName "java/lang/String" = true := by first | (simp [plainName, overriddenIn]; done) | decide +kernel
set_option maxRecDepth 65536 in
set_option maxHeartbeats 40000000 in
theorem m_cki10 (l : Launch) (Z : State) (a0 : Array Value) (hw : ∀ d ∈ tables_1, d.before a0 Z = true) (n0 : Nat) (h0 : Heap) (fv : Value) (hfv : fv.isRef = true) (X0 : Old Z n0 h0) (SQ : Sta Z Z.heap "jdk/internal/util/Preconditions" "SIOOBE_FORMATTER" "Ljava/util/function/BiFunction;" fv) :
    Met l Z (⟨"java/lang/String", "checkIndex", "(II)V"⟩ : MethodName) jdk_42_method_155_code 2 none ({ frames := 1, cells := 0, slots := 0, locals := 14 } : Room) n0 [] #[(.int (0 : Int32)), (.int (1 : Int32))] h0 (fun v h => v = none ∧ h0 = h) := by
  refine Met.intro (Ls := #[.val (.int (0 : Int32)), .val (.int (1 : Int32))]) (plainFor_of_name pn_m_cki10) hw (fun m => by first | rfl | (simp [entryFrame, mkF, argsToLocals, Value.category]; done)) ?_
  intro w K0
  have K : Cx w Z a0 "java/lang/String" jdk_42_method_155_code 2 none "checkIndex" := K0
  refine Rn.iloadN K (q := 1) d16_0 rfl rfl ?_
  refine Rn.iloadN K (q := 2) d16_1 rfl rfl ?_
  refine Rn.getS K (q := 5) (List.mem_of_getElem? (i := 78) rfl) (SQ.ext X0.2) d16_2 rfl ?_
  refine Rn.stat K (q := 8) (W := 0) (y := (⟨"jdk/internal/util/Preconditions", "checkIndex", "(IILjava/util/function/BiFunction;)I"⟩ : MethodName)) (argsL := [(.int (0 : Int32)), (.int (1 : Int32)), fv]) (rest := []) (List.mem_of_getElem? (i := 80) rfl) (List.mem_of_getElem? (i := 81) rfl) (List.mem_of_getElem? (i := 82) rfl) (List.mem_of_getElem? (i := 79) rfl) (by decide) (m_pci10 l Z a0 hw n0 h0 fv hfv X0) (by decide) (by decide) rfl (lenOf pd_2 rfl) rfl (Nat.le_of_ble_eq_true rfl) d16_5 rfl (by decide) (by decide) ?_
  rintro _ _ ⟨rfl, rfl⟩
  show Rn w l _ n0 _ 8 #[.val (.int (0 : Int32)), .val (.int (1 : Int32))] [(.int (0 : Int32))] h0 0 0
  refine Rn.pop K (q := 9) d16_8 rfl rfl ?_
  exact Rn.retV K rfl d16_9 (by decide) (by decide) ⟨rfl, rfl⟩
theorem d15_0 : decode jdk_43_method_2_code 0 = .ok (.iload_n 1, 1) := by decide +kernel
theorem d15_1 : decode jdk_43_method_2_code 1 = .ok (.aload_n 0, 1) := by decide +kernel
theorem d15_2 : decode jdk_43_method_2_code 2 = .ok (.arraylength, 1) := by decide +kernel
theorem d15_3 : decode jdk_43_method_2_code 3 = .ok (.invokestatic 9, 3) := by decide +kernel
theorem d15_6 : decode jdk_43_method_2_code 6 = .ok (.aload_n 0, 1) := by decide +kernel
theorem d15_7 : decode jdk_43_method_2_code 7 = .ok (.iload_n 1, 1) := by decide +kernel
theorem d15_8 : decode jdk_43_method_2_code 8 = .ok (.baload, 1) := by decide +kernel
theorem d15_9 : decode jdk_43_method_2_code 9 = .ok (.sipush 255, 3) := by decide +kernel
theorem d15_12 : decode jdk_43_method_2_code 12 = .ok (.iand, 1) := by decide +kernel
theorem d15_13 : decode jdk_43_method_2_code 13 = .ok (.i2c, 1) := by decide +kernel
theorem d15_14 : decode jdk_43_method_2_code 14 = .ok (.ireturn, 1) := by decide +kernel
theorem pn_m_lch10 : plainName "java/lang/StringLatin1" = true := by first | (simp [plainName, overriddenIn]; done) | decide +kernel
set_option maxRecDepth 65536 in
set_option maxHeartbeats 40000000 in
theorem m_lch10 (l : Launch) (Z : State) (a0 : Array Value) (hw : ∀ d ∈ tables_1, d.before a0 Z = true) (n0 : Nat) (h0 : Heap) (v : Addr) (k : ClassId) (x0 : Int32) (fv : Value) (hfv : fv.isRef = true) (X0 : Old Z n0 h0) (SQ : Sta Z Z.heap "jdk/internal/util/Preconditions" "SIOOBE_FORMATTER" "Ljava/util/function/BiFunction;" fv) (Av : Arv Z h0 v k .byte (1 : Int32) [(.int x0)] (.int (0 : Int32))) :
    Met l Z (⟨"java/lang/StringLatin1", "charAt", "([BI)C"⟩ : MethodName) jdk_43_method_2_code 2 (some .char) ({ frames := 2, cells := 0, slots := 0, locals := 27 } : Room) n0 [] #[(.ref v), (.int (0 : Int32))] h0 (fun v h => v = some (.int (nar .char (x0 &&& (255 : Int32)).toUInt32.toUInt16.toUInt32.toInt32)) ∧ h0 = h) := by
  refine Met.intro (Ls := #[.val (.ref v), .val (.int (0 : Int32))]) (plainFor_of_name pn_m_lch10) hw (fun m => by first | rfl | (simp [entryFrame, mkF, argsToLocals, Value.category]; done)) ?_
  intro w K0
  have K : Cx w Z a0 "java/lang/StringLatin1" jdk_43_method_2_code 2 (some .char) "charAt" := K0
  refine Rn.iloadN K (q := 1) d15_0 rfl rfl ?_
  refine Rn.aloadN K (q := 2) d15_1 rfl rfl rfl ?_
  refine Rn.arraylength K (q := 3) Av d15_2 rfl ?_
  refine Rn.stat K (q := 6) (W := 0) (y := (⟨"java/lang/String", "checkIndex", "(II)V"⟩ : MethodName)) (argsL := [(.int (0 : Int32)), (.int (1 : Int32))]) (rest := []) (List.mem_of_getElem? (i := 75) rfl) (List.mem_of_getElem? (i := 76) rfl) (List.mem_of_getElem? (i := 77) rfl) (List.mem_of_getElem? (i := 6) rfl) (by decide) (m_cki10 l Z a0 hw n0 h0 fv hfv X0 SQ) (by decide) (by decide) rfl (lenOf pd_3 rfl) rfl (Nat.le_of_ble_eq_true rfl) d15_3 rfl (by decide) (by decide) ?_
  rintro _ _ ⟨rfl, rfl⟩
  show Rn w l _ n0 _ 6 #[.val (.ref v), .val (.int (0 : Int32))] [] h0 0 0
  refine Rn.aloadN K (q := 7) d15_6 rfl rfl rfl ?_
  refine Rn.iloadN K (q := 8) d15_7 rfl rfl ?_
  refine Rn.baloadB K (q := 9) (v := (.int x0)) Av (by decide) rfl d15_8 rfl ?_
  refine Rn.sipush K (q := 12) (255 : Int32) d15_9 rfl rfl ?_
  refine Rn.iand K (q := 13) d15_12 rfl ?_
  refine Rn.i2c K (q := 14) d15_13 rfl ?_
  exact Rn.retN K .char rfl (by simp) d15_14 (by decide) (by decide) ⟨rfl, rfl⟩
theorem d13_0 : decode jdk_42_method_56_code 0 = .ok (.aload_n 0, 1) := by decide +kernel
theorem d13_1 : decode jdk_42_method_56_code 1 = .ok (.invokevirtual 492, 3) := by decide +kernel
theorem d13_4 : decode jdk_42_method_56_code 4 = .ok (.ifCond .eq 12, 3) := by decide +kernel
theorem d13_7 : decode jdk_42_method_56_code 7 = .ok (.aload_n 0, 1) := by decide +kernel
theorem d13_8 : decode jdk_42_method_56_code 8 = .ok (.getfield 9, 3) := by decide +kernel
theorem d13_11 : decode jdk_42_method_56_code 11 = .ok (.iload_n 1, 1) := by decide +kernel
theorem d13_12 : decode jdk_42_method_56_code 12 = .ok (.invokestatic 495, 3) := by decide +kernel
theorem d13_15 : decode jdk_42_method_56_code 15 = .ok (.ireturn, 1) := by decide +kernel
theorem pn_m_ch10 : plainName "java/lang/String" = true := by first | (simp [plainName, overriddenIn]; done) | decide +kernel
set_option maxRecDepth 65536 in
set_option maxHeartbeats 40000000 in
theorem m_ch10 (l : Launch) (Z : State) (a0 : Array Value) (hw : ∀ d ∈ tables_1, d.before a0 Z = true) (n0 : Nat) (h0 : Heap) (s v : Addr) (k : ClassId) (cst : Int32) (x0 : Int32) (fv : Value) (hfv : fv.isRef = true) (X0 : Old Z n0 h0) (SC : Sta Z Z.heap "java/lang/String" "COMPACT_STRINGS" "Z" (.int cst)) (hcs : ¬ cst = 0) (SQ : Sta Z Z.heap "jdk/internal/util/Preconditions" "SIOOBE_FORMATTER" "Ljava/util/function/BiFunction;" fv) (Es : Exa Z h0 s "java/lang/String") (Fc : Fld Z h0 s "java/lang/String" "coder" "B" (.int (0 : Int32))) (Fv : Fld Z h0 s "java/lang/String" "value" "[B" (.ref v)) (Av : Arv Z h0 v k .byte (1 : Int32) [(.int x0)] (.int (0 : Int32))) :
    Met l Z (⟨"java/lang/String", "charAt", "(I)C"⟩ : MethodName) jdk_42_method_56_code 2 (some .char) ({ frames := 3, cells := 0, slots := 0, locals := 40 } : Room) n0 [] #[(.ref s), (.int (0 : Int32))] h0 (fun v h => v = some (.int (nar .char (nar .char (x0 &&& (255 : Int32)).toUInt32.toUInt16.toUInt32.toInt32))) ∧ h0 = h) := by
  refine Met.intro (Ls := #[.val (.ref s), .val (.int (0 : Int32))]) (plainFor_of_name pn_m_ch10) hw (fun m => by first | rfl | (simp [entryFrame, mkF, argsToLocals, Value.category]; done)) ?_
  intro w K0
  have K : Cx w Z a0 "java/lang/String" jdk_42_method_56_code 2 (some .char) "charAt" := K0
  refine Rn.aloadN K (q := 1) d13_0 rfl rfl rfl ?_
  refine Rn.virt K (q := 4) (W := 0) (y := (⟨"java/lang/String", "isLatin1", "()Z"⟩ : MethodName)) (z := (⟨"java/lang/String", "isLatin1", "()Z"⟩ : MethodName)) (b := s) (argsL := []) (rest := []) (List.mem_of_getElem? (i := 66) rfl) (List.mem_of_getElem? (i := 67) rfl) (nfs K (List.mem_of_getElem? (i := 69) rfl)) (List.mem_of_getElem? (i := 69) rfl) (List.mem_of_getElem? (i := 68) rfl) (List.mem_of_getElem? (i := 70) rfl) (List.mem_of_getElem? (i := 6) rfl) (by decide) (m_lat l Z a0 hw n0 h0 s cst X0 SC hcs Fc) Es (by decide) (by decide) rfl (lenOf pd_0 rfl) rfl (Nat.le_of_ble_eq_true rfl) d13_1 rfl (by decide) (by decide) ?_
  rintro _ _ ⟨rfl, rfl⟩
  show Rn w l _ n0 _ 4 #[.val (.ref s), .val (.int (0 : Int32))] [(.int (1 : Int32))] h0 0 0
  refine Rn.ifN K (q := 7) d13_4 (XT.i0_eq_f (by decide)) rfl ?_
  refine Rn.aloadN K (q := 8) d13_7 rfl rfl rfl ?_
  refine Rn.getF K (q := 11) (List.mem_of_getElem? (i := 24) rfl) Via.refl Fv d13_8 rfl ?_
  refine Rn.iloadN K (q := 12) d13_11 rfl rfl ?_
  refine Rn.stat K (q := 15) (W := 0) (y := (⟨"java/lang/StringLatin1", "charAt", "([BI)C"⟩ : MethodName)) (argsL := [(.ref v), (.int (0 : Int32))]) (rest := []) (List.mem_of_getElem? (i := 71) rfl) (List.mem_of_getElem? (i := 72) rfl) (List.mem_of_getElem? (i := 74) rfl) (List.mem_of_getElem? (i := 73) rfl) (by decide) (m_lch10 l Z a0 hw n0 h0 v k x0 fv hfv X0 SQ Av) (by decide) (by decide) rfl (lenOf pd_4 rfl) rfl (Nat.le_of_ble_eq_true rfl) d13_12 rfl (by decide) (by decide) ?_
  rintro _ _ ⟨rfl, rfl⟩
  show Rn w l _ n0 _ 15 #[.val (.ref s), .val (.int (0 : Int32))] [(.int (nar .char (x0 &&& (255 : Int32)).toUInt32.toUInt16.toUInt32.toInt32))] h0 0 0
  exact Rn.retN K .char rfl (by simp) d13_15 (by decide) (by decide) ⟨rfl, rfl⟩
theorem pn_m_pci20 : plainName "jdk/internal/util/Preconditions" = true := by first | (simp [plainName, overriddenIn]; done) | decide +kernel
set_option maxRecDepth 65536 in
set_option maxHeartbeats 40000000 in
theorem m_pci20 (l : Launch) (Z : State) (a0 : Array Value) (hw : ∀ d ∈ tables_1, d.before a0 Z = true) (n0 : Nat) (h0 : Heap) (fv : Value) (hfv : fv.isRef = true) (X0 : Old Z n0 h0) :
    Met l Z (⟨"jdk/internal/util/Preconditions", "checkIndex", "(IILjava/util/function/BiFunction;)I"⟩ : MethodName) jdk_41_method_11_code 3 (some .int) ({ frames := 0, cells := 0, slots := 0, locals := 0 } : Room) n0 [] #[(.int (0 : Int32)), (.int (2 : Int32)), fv] h0 (fun v h => v = some (.int (0 : Int32)) ∧ h0 = h) := by
  refine Met.intro (Ls := #[.val (.int (0 : Int32)), .val (.int (2 : Int32)), .val fv]) (plainFor_of_name pn_m_pci20) hw (fun m => by (rcases XT.refc hfv with qfv | ⟨_, qfv⟩ <;> rw [qfv]) <;> rfl) ?_
  intro w K0
  have K : Cx w Z a0 "jdk/internal/util/Preconditions" jdk_41_method_11_code 3 (some .int) "checkIndex" := K0
  refine Rn.iloadN K (q := 1) d17_0 rfl rfl ?_
  refine Rn.ifN K (q := 4) d17_1 (XT.i0_lt_f (by decide)) rfl ?_
  refine Rn.iloadN K (q := 5) d17_4 rfl rfl ?_
  refine Rn.iloadN K (q := 6) d17_5 rfl rfl ?_
  refine Rn.icY K (q := 16) d17_6 (XT.ii_lt_t (by decide)) (by decide) (by decide) ?_
  refine Rn.iloadN K (q := 17) d17_16 rfl rfl ?_
  exact Rn.retI K rfl d17_17 (by decide) (by decide) ⟨rfl, rfl⟩
theorem pn_m_cki20 : plainName "java/lang/String" = true := by first | (simp [plainName, overriddenIn]; done) | decide +kernel
set_option maxRecDepth 65536 in
set_option maxHeartbeats 40000000 in
theorem m_cki20 (l : Launch) (Z : State) (a0 : Array Value) (hw : ∀ d ∈ tables_1, d.before a0 Z = true) (n0 : Nat) (h0 : Heap) (fv : Value) (hfv : fv.isRef = true) (X0 : Old Z n0 h0) (SQ : Sta Z Z.heap "jdk/internal/util/Preconditions" "SIOOBE_FORMATTER" "Ljava/util/function/BiFunction;" fv) :
    Met l Z (⟨"java/lang/String", "checkIndex", "(II)V"⟩ : MethodName) jdk_42_method_155_code 2 none ({ frames := 1, cells := 0, slots := 0, locals := 14 } : Room) n0 [] #[(.int (0 : Int32)), (.int (2 : Int32))] h0 (fun v h => v = none ∧ h0 = h) := by
  refine Met.intro (Ls := #[.val (.int (0 : Int32)), .val (.int (2 : Int32))]) (plainFor_of_name pn_m_cki20) hw (fun m => by first | rfl | (simp [entryFrame, mkF, argsToLocals, Value.category]; done)) ?_
  intro w K0
  have K : Cx w Z a0 "java/lang/String" jdk_42_method_155_code 2 none "checkIndex" := K0
  refine Rn.iloadN K (q := 1) d16_0 rfl rfl ?_
  refine Rn.iloadN K (q := 2) d16_1 rfl rfl ?_
  refine Rn.getS K (q := 5) (List.mem_of_getElem? (i := 78) rfl) (SQ.ext X0.2) d16_2 rfl ?_
  refine Rn.stat K (q := 8) (W := 0) (y := (⟨"jdk/internal/util/Preconditions", "checkIndex", "(IILjava/util/function/BiFunction;)I"⟩ : MethodName)) (argsL := [(.int (0 : Int32)), (.int (2 : Int32)), fv]) (rest := []) (List.mem_of_getElem? (i := 80) rfl) (List.mem_of_getElem? (i := 81) rfl) (List.mem_of_getElem? (i := 82) rfl) (List.mem_of_getElem? (i := 79) rfl) (by decide) (m_pci20 l Z a0 hw n0 h0 fv hfv X0) (by decide) (by decide) rfl (lenOf pd_2 rfl) rfl (Nat.le_of_ble_eq_true rfl) d16_5 rfl (by decide) (by decide) ?_
  rintro _ _ ⟨rfl, rfl⟩
  show Rn w l _ n0 _ 8 #[.val (.int (0 : Int32)), .val (.int (2 : Int32))] [(.int (0 : Int32))] h0 0 0
  refine Rn.pop K (q := 9) d16_8 rfl rfl ?_
  exact Rn.retV K rfl d16_9 (by decide) (by decide) ⟨rfl, rfl⟩
theorem pn_m_lch20 : plainName "java/lang/StringLatin1" = true := by first | (simp [plainName, overriddenIn]; done) | decide +kernel
set_option maxRecDepth 65536 in
set_option maxHeartbeats 40000000 in
theorem m_lch20 (l : Launch) (Z : State) (a0 : Array Value) (hw : ∀ d ∈ tables_1, d.before a0 Z = true) (n0 : Nat) (h0 : Heap) (v : Addr) (k : ClassId) (x0 x1 : Int32) (fv : Value) (hfv : fv.isRef = true) (X0 : Old Z n0 h0) (SQ : Sta Z Z.heap "jdk/internal/util/Preconditions" "SIOOBE_FORMATTER" "Ljava/util/function/BiFunction;" fv) (Av : Arv Z h0 v k .byte (2 : Int32) [(.int x0), (.int x1)] (.int (0 : Int32))) :
    Met l Z (⟨"java/lang/StringLatin1", "charAt", "([BI)C"⟩ : MethodName) jdk_43_method_2_code 2 (some .char) ({ frames := 2, cells := 0, slots := 0, locals := 27 } : Room) n0 [] #[(.ref v), (.int (0 : Int32))] h0 (fun v h => v = some (.int (nar .char (x0 &&& (255 : Int32)).toUInt32.toUInt16.toUInt32.toInt32)) ∧ h0 = h) := by
  refine Met.intro (Ls := #[.val (.ref v), .val (.int (0 : Int32))]) (plainFor_of_name pn_m_lch20) hw (fun m => by first | rfl | (simp [entryFrame, mkF, argsToLocals, Value.category]; done)) ?_
  intro w K0
  have K : Cx w Z a0 "java/lang/StringLatin1" jdk_43_method_2_code 2 (some .char) "charAt" := K0
  refine Rn.iloadN K (q := 1) d15_0 rfl rfl ?_
  refine Rn.aloadN K (q := 2) d15_1 rfl rfl rfl ?_
  refine Rn.arraylength K (q := 3) Av d15_2 rfl ?_
  refine Rn.stat K (q := 6) (W := 0) (y := (⟨"java/lang/String", "checkIndex", "(II)V"⟩ : MethodName)) (argsL := [(.int (0 : Int32)), (.int (2 : Int32))]) (rest := []) (List.mem_of_getElem? (i := 75) rfl) (List.mem_of_getElem? (i := 76) rfl) (List.mem_of_getElem? (i := 77) rfl) (List.mem_of_getElem? (i := 6) rfl) (by decide) (m_cki20 l Z a0 hw n0 h0 fv hfv X0 SQ) (by decide) (by decide) rfl (lenOf pd_3 rfl) rfl (Nat.le_of_ble_eq_true rfl) d15_3 rfl (by decide) (by decide) ?_
  rintro _ _ ⟨rfl, rfl⟩
  show Rn w l _ n0 _ 6 #[.val (.ref v), .val (.int (0 : Int32))] [] h0 0 0
  refine Rn.aloadN K (q := 7) d15_6 rfl rfl rfl ?_
  refine Rn.iloadN K (q := 8) d15_7 rfl rfl ?_
  refine Rn.baloadB K (q := 9) (v := (.int x0)) Av (by decide) rfl d15_8 rfl ?_
  refine Rn.sipush K (q := 12) (255 : Int32) d15_9 rfl rfl ?_
  refine Rn.iand K (q := 13) d15_12 rfl ?_
  refine Rn.i2c K (q := 14) d15_13 rfl ?_
  exact Rn.retN K .char rfl (by simp) d15_14 (by decide) (by decide) ⟨rfl, rfl⟩
theorem pn_m_ch20 : plainName "java/lang/String" = true := by first | (simp [plainName, overriddenIn]; done) | decide +kernel
set_option maxRecDepth 65536 in
set_option maxHeartbeats 40000000 in
theorem m_ch20 (l : Launch) (Z : State) (a0 : Array Value) (hw : ∀ d ∈ tables_1, d.before a0 Z = true) (n0 : Nat) (h0 : Heap) (s v : Addr) (k : ClassId) (cst : Int32) (x0 x1 : Int32) (fv : Value) (hfv : fv.isRef = true) (X0 : Old Z n0 h0) (SC : Sta Z Z.heap "java/lang/String" "COMPACT_STRINGS" "Z" (.int cst)) (hcs : ¬ cst = 0) (SQ : Sta Z Z.heap "jdk/internal/util/Preconditions" "SIOOBE_FORMATTER" "Ljava/util/function/BiFunction;" fv) (Es : Exa Z h0 s "java/lang/String") (Fc : Fld Z h0 s "java/lang/String" "coder" "B" (.int (0 : Int32))) (Fv : Fld Z h0 s "java/lang/String" "value" "[B" (.ref v)) (Av : Arv Z h0 v k .byte (2 : Int32) [(.int x0), (.int x1)] (.int (0 : Int32))) :
    Met l Z (⟨"java/lang/String", "charAt", "(I)C"⟩ : MethodName) jdk_42_method_56_code 2 (some .char) ({ frames := 3, cells := 0, slots := 0, locals := 40 } : Room) n0 [] #[(.ref s), (.int (0 : Int32))] h0 (fun v h => v = some (.int (nar .char (nar .char (x0 &&& (255 : Int32)).toUInt32.toUInt16.toUInt32.toInt32))) ∧ h0 = h) := by
  refine Met.intro (Ls := #[.val (.ref s), .val (.int (0 : Int32))]) (plainFor_of_name pn_m_ch20) hw (fun m => by first | rfl | (simp [entryFrame, mkF, argsToLocals, Value.category]; done)) ?_
  intro w K0
  have K : Cx w Z a0 "java/lang/String" jdk_42_method_56_code 2 (some .char) "charAt" := K0
  refine Rn.aloadN K (q := 1) d13_0 rfl rfl rfl ?_
  refine Rn.virt K (q := 4) (W := 0) (y := (⟨"java/lang/String", "isLatin1", "()Z"⟩ : MethodName)) (z := (⟨"java/lang/String", "isLatin1", "()Z"⟩ : MethodName)) (b := s) (argsL := []) (rest := []) (List.mem_of_getElem? (i := 66) rfl) (List.mem_of_getElem? (i := 67) rfl) (nfs K (List.mem_of_getElem? (i := 69) rfl)) (List.mem_of_getElem? (i := 69) rfl) (List.mem_of_getElem? (i := 68) rfl) (List.mem_of_getElem? (i := 70) rfl) (List.mem_of_getElem? (i := 6) rfl) (by decide) (m_lat l Z a0 hw n0 h0 s cst X0 SC hcs Fc) Es (by decide) (by decide) rfl (lenOf pd_0 rfl) rfl (Nat.le_of_ble_eq_true rfl) d13_1 rfl (by decide) (by decide) ?_
  rintro _ _ ⟨rfl, rfl⟩
  show Rn w l _ n0 _ 4 #[.val (.ref s), .val (.int (0 : Int32))] [(.int (1 : Int32))] h0 0 0
  refine Rn.ifN K (q := 7) d13_4 (XT.i0_eq_f (by decide)) rfl ?_
  refine Rn.aloadN K (q := 8) d13_7 rfl rfl rfl ?_
  refine Rn.getF K (q := 11) (List.mem_of_getElem? (i := 24) rfl) Via.refl Fv d13_8 rfl ?_
  refine Rn.iloadN K (q := 12) d13_11 rfl rfl ?_
  refine Rn.stat K (q := 15) (W := 0) (y := (⟨"java/lang/StringLatin1", "charAt", "([BI)C"⟩ : MethodName)) (argsL := [(.ref v), (.int (0 : Int32))]) (rest := []) (List.mem_of_getElem? (i := 71) rfl) (List.mem_of_getElem? (i := 72) rfl) (List.mem_of_getElem? (i := 74) rfl) (List.mem_of_getElem? (i := 73) rfl) (by decide) (m_lch20 l Z a0 hw n0 h0 v k x0 x1 fv hfv X0 SQ Av) (by decide) (by decide) rfl (lenOf pd_4 rfl) rfl (Nat.le_of_ble_eq_true rfl) d13_12 rfl (by decide) (by decide) ?_
  rintro _ _ ⟨rfl, rfl⟩
  show Rn w l _ n0 _ 15 #[.val (.ref s), .val (.int (0 : Int32))] [(.int (nar .char (x0 &&& (255 : Int32)).toUInt32.toUInt16.toUInt32.toInt32))] h0 0 0
  exact Rn.retN K .char rfl (by simp) d13_15 (by decide) (by decide) ⟨rfl, rfl⟩
theorem pn_m_pci21 : plainName "jdk/internal/util/Preconditions" = true := by first | (simp [plainName, overriddenIn]; done) | decide +kernel
set_option maxRecDepth 65536 in
set_option maxHeartbeats 40000000 in
theorem m_pci21 (l : Launch) (Z : State) (a0 : Array Value) (hw : ∀ d ∈ tables_1, d.before a0 Z = true) (n0 : Nat) (h0 : Heap) (fv : Value) (hfv : fv.isRef = true) (X0 : Old Z n0 h0) :
    Met l Z (⟨"jdk/internal/util/Preconditions", "checkIndex", "(IILjava/util/function/BiFunction;)I"⟩ : MethodName) jdk_41_method_11_code 3 (some .int) ({ frames := 0, cells := 0, slots := 0, locals := 0 } : Room) n0 [] #[(.int (1 : Int32)), (.int (2 : Int32)), fv] h0 (fun v h => v = some (.int (1 : Int32)) ∧ h0 = h) := by
  refine Met.intro (Ls := #[.val (.int (1 : Int32)), .val (.int (2 : Int32)), .val fv]) (plainFor_of_name pn_m_pci21) hw (fun m => by (rcases XT.refc hfv with qfv | ⟨_, qfv⟩ <;> rw [qfv]) <;> rfl) ?_
  intro w K0
  have K : Cx w Z a0 "jdk/internal/util/Preconditions" jdk_41_method_11_code 3 (some .int) "checkIndex" := K0
  refine Rn.iloadN K (q := 1) d17_0 rfl rfl ?_
  refine Rn.ifN K (q := 4) d17_1 (XT.i0_lt_f (by decide)) rfl ?_
  refine Rn.iloadN K (q := 5) d17_4 rfl rfl ?_
  refine Rn.iloadN K (q := 6) d17_5 rfl rfl ?_
  refine Rn.icY K (q := 16) d17_6 (XT.ii_lt_t (by decide)) (by decide) (by decide) ?_
  refine Rn.iloadN K (q := 17) d17_16 rfl rfl ?_
  exact Rn.retI K rfl d17_17 (by decide) (by decide) ⟨rfl, rfl⟩
theorem pn_m_cki21 : plainName "java/lang/String" = true := by first | (simp [plainName, overriddenIn]; done) | decide +kernel
set_option maxRecDepth 65536 in
set_option maxHeartbeats 40000000 in
theorem m_cki21 (l : Launch) (Z : State) (a0 : Array Value) (hw : ∀ d ∈ tables_1, d.before a0 Z = true) (n0 : Nat) (h0 : Heap) (fv : Value) (hfv : fv.isRef = true) (X0 : Old Z n0 h0) (SQ : Sta Z Z.heap "jdk/internal/util/Preconditions" "SIOOBE_FORMATTER" "Ljava/util/function/BiFunction;" fv) :
    Met l Z (⟨"java/lang/String", "checkIndex", "(II)V"⟩ : MethodName) jdk_42_method_155_code 2 none ({ frames := 1, cells := 0, slots := 0, locals := 14 } : Room) n0 [] #[(.int (1 : Int32)), (.int (2 : Int32))] h0 (fun v h => v = none ∧ h0 = h) := by
  refine Met.intro (Ls := #[.val (.int (1 : Int32)), .val (.int (2 : Int32))]) (plainFor_of_name pn_m_cki21) hw (fun m => by first | rfl | (simp [entryFrame, mkF, argsToLocals, Value.category]; done)) ?_
  intro w K0
  have K : Cx w Z a0 "java/lang/String" jdk_42_method_155_code 2 none "checkIndex" := K0
  refine Rn.iloadN K (q := 1) d16_0 rfl rfl ?_
  refine Rn.iloadN K (q := 2) d16_1 rfl rfl ?_
  refine Rn.getS K (q := 5) (List.mem_of_getElem? (i := 78) rfl) (SQ.ext X0.2) d16_2 rfl ?_
  refine Rn.stat K (q := 8) (W := 0) (y := (⟨"jdk/internal/util/Preconditions", "checkIndex", "(IILjava/util/function/BiFunction;)I"⟩ : MethodName)) (argsL := [(.int (1 : Int32)), (.int (2 : Int32)), fv]) (rest := []) (List.mem_of_getElem? (i := 80) rfl) (List.mem_of_getElem? (i := 81) rfl) (List.mem_of_getElem? (i := 82) rfl) (List.mem_of_getElem? (i := 79) rfl) (by decide) (m_pci21 l Z a0 hw n0 h0 fv hfv X0) (by decide) (by decide) rfl (lenOf pd_2 rfl) rfl (Nat.le_of_ble_eq_true rfl) d16_5 rfl (by decide) (by decide) ?_
  rintro _ _ ⟨rfl, rfl⟩
  show Rn w l _ n0 _ 8 #[.val (.int (1 : Int32)), .val (.int (2 : Int32))] [(.int (1 : Int32))] h0 0 0
  refine Rn.pop K (q := 9) d16_8 rfl rfl ?_
  exact Rn.retV K rfl d16_9 (by decide) (by decide) ⟨rfl, rfl⟩
theorem pn_m_lch21 : plainName "java/lang/StringLatin1" = true := by first | (simp [plainName, overriddenIn]; done) | decide +kernel
set_option maxRecDepth 65536 in
set_option maxHeartbeats 40000000 in
theorem m_lch21 (l : Launch) (Z : State) (a0 : Array Value) (hw : ∀ d ∈ tables_1, d.before a0 Z = true) (n0 : Nat) (h0 : Heap) (v : Addr) (k : ClassId) (x0 x1 : Int32) (fv : Value) (hfv : fv.isRef = true) (X0 : Old Z n0 h0) (SQ : Sta Z Z.heap "jdk/internal/util/Preconditions" "SIOOBE_FORMATTER" "Ljava/util/function/BiFunction;" fv) (Av : Arv Z h0 v k .byte (2 : Int32) [(.int x0), (.int x1)] (.int (0 : Int32))) :
    Met l Z (⟨"java/lang/StringLatin1", "charAt", "([BI)C"⟩ : MethodName) jdk_43_method_2_code 2 (some .char) ({ frames := 2, cells := 0, slots := 0, locals := 27 } : Room) n0 [] #[(.ref v), (.int (1 : Int32))] h0 (fun v h => v = some (.int (nar .char (x1 &&& (255 : Int32)).toUInt32.toUInt16.toUInt32.toInt32)) ∧ h0 = h) := by
  refine Met.intro (Ls := #[.val (.ref v), .val (.int (1 : Int32))]) (plainFor_of_name pn_m_lch21) hw (fun m => by first | rfl | (simp [entryFrame, mkF, argsToLocals, Value.category]; done)) ?_
  intro w K0
  have K : Cx w Z a0 "java/lang/StringLatin1" jdk_43_method_2_code 2 (some .char) "charAt" := K0
  refine Rn.iloadN K (q := 1) d15_0 rfl rfl ?_
  refine Rn.aloadN K (q := 2) d15_1 rfl rfl rfl ?_
  refine Rn.arraylength K (q := 3) Av d15_2 rfl ?_
  refine Rn.stat K (q := 6) (W := 0) (y := (⟨"java/lang/String", "checkIndex", "(II)V"⟩ : MethodName)) (argsL := [(.int (1 : Int32)), (.int (2 : Int32))]) (rest := []) (List.mem_of_getElem? (i := 75) rfl) (List.mem_of_getElem? (i := 76) rfl) (List.mem_of_getElem? (i := 77) rfl) (List.mem_of_getElem? (i := 6) rfl) (by decide) (m_cki21 l Z a0 hw n0 h0 fv hfv X0 SQ) (by decide) (by decide) rfl (lenOf pd_3 rfl) rfl (Nat.le_of_ble_eq_true rfl) d15_3 rfl (by decide) (by decide) ?_
  rintro _ _ ⟨rfl, rfl⟩
  show Rn w l _ n0 _ 6 #[.val (.ref v), .val (.int (1 : Int32))] [] h0 0 0
  refine Rn.aloadN K (q := 7) d15_6 rfl rfl rfl ?_
  refine Rn.iloadN K (q := 8) d15_7 rfl rfl ?_
  refine Rn.baloadB K (q := 9) (v := (.int x1)) Av (by decide) rfl d15_8 rfl ?_
  refine Rn.sipush K (q := 12) (255 : Int32) d15_9 rfl rfl ?_
  refine Rn.iand K (q := 13) d15_12 rfl ?_
  refine Rn.i2c K (q := 14) d15_13 rfl ?_
  exact Rn.retN K .char rfl (by simp) d15_14 (by decide) (by decide) ⟨rfl, rfl⟩
theorem pn_m_ch21 : plainName "java/lang/String" = true := by first | (simp [plainName, overriddenIn]; done) | decide +kernel
set_option maxRecDepth 65536 in
set_option maxHeartbeats 40000000 in
theorem m_ch21 (l : Launch) (Z : State) (a0 : Array Value) (hw : ∀ d ∈ tables_1, d.before a0 Z = true) (n0 : Nat) (h0 : Heap) (s v : Addr) (k : ClassId) (cst : Int32) (x0 x1 : Int32) (fv : Value) (hfv : fv.isRef = true) (X0 : Old Z n0 h0) (SC : Sta Z Z.heap "java/lang/String" "COMPACT_STRINGS" "Z" (.int cst)) (hcs : ¬ cst = 0) (SQ : Sta Z Z.heap "jdk/internal/util/Preconditions" "SIOOBE_FORMATTER" "Ljava/util/function/BiFunction;" fv) (Es : Exa Z h0 s "java/lang/String") (Fc : Fld Z h0 s "java/lang/String" "coder" "B" (.int (0 : Int32))) (Fv : Fld Z h0 s "java/lang/String" "value" "[B" (.ref v)) (Av : Arv Z h0 v k .byte (2 : Int32) [(.int x0), (.int x1)] (.int (0 : Int32))) :
    Met l Z (⟨"java/lang/String", "charAt", "(I)C"⟩ : MethodName) jdk_42_method_56_code 2 (some .char) ({ frames := 3, cells := 0, slots := 0, locals := 40 } : Room) n0 [] #[(.ref s), (.int (1 : Int32))] h0 (fun v h => v = some (.int (nar .char (nar .char (x1 &&& (255 : Int32)).toUInt32.toUInt16.toUInt32.toInt32))) ∧ h0 = h) := by
  refine Met.intro (Ls := #[.val (.ref s), .val (.int (1 : Int32))]) (plainFor_of_name pn_m_ch21) hw (fun m => by first | rfl | (simp [entryFrame, mkF, argsToLocals, Value.category]; done)) ?_
  intro w K0
  have K : Cx w Z a0 "java/lang/String" jdk_42_method_56_code 2 (some .char) "charAt" := K0
  refine Rn.aloadN K (q := 1) d13_0 rfl rfl rfl ?_
  refine Rn.virt K (q := 4) (W := 0) (y := (⟨"java/lang/String", "isLatin1", "()Z"⟩ : MethodName)) (z := (⟨"java/lang/String", "isLatin1", "()Z"⟩ : MethodName)) (b := s) (argsL := []) (rest := []) (List.mem_of_getElem? (i := 66) rfl) (List.mem_of_getElem? (i := 67) rfl) (nfs K (List.mem_of_getElem? (i := 69) rfl)) (List.mem_of_getElem? (i := 69) rfl) (List.mem_of_getElem? (i := 68) rfl) (List.mem_of_getElem? (i := 70) rfl) (List.mem_of_getElem? (i := 6) rfl) (by decide) (m_lat l Z a0 hw n0 h0 s cst X0 SC hcs Fc) Es (by decide) (by decide) rfl (lenOf pd_0 rfl) rfl (Nat.le_of_ble_eq_true rfl) d13_1 rfl (by decide) (by decide) ?_
  rintro _ _ ⟨rfl, rfl⟩
  show Rn w l _ n0 _ 4 #[.val (.ref s), .val (.int (1 : Int32))] [(.int (1 : Int32))] h0 0 0
  refine Rn.ifN K (q := 7) d13_4 (XT.i0_eq_f (by decide)) rfl ?_
  refine Rn.aloadN K (q := 8) d13_7 rfl rfl rfl ?_
  refine Rn.getF K (q := 11) (List.mem_of_getElem? (i := 24) rfl) Via.refl Fv d13_8 rfl ?_
  refine Rn.iloadN K (q := 12) d13_11 rfl rfl ?_
  refine Rn.stat K (q := 15) (W := 0) (y := (⟨"java/lang/StringLatin1", "charAt", "([BI)C"⟩ : MethodName)) (argsL := [(.ref v), (.int (1 : Int32))]) (rest := []) (List.mem_of_getElem? (i := 71) rfl) (List.mem_of_getElem? (i := 72) rfl) (List.mem_of_getElem? (i := 74) rfl) (List.mem_of_getElem? (i := 73) rfl) (by decide) (m_lch21 l Z a0 hw n0 h0 v k x0 x1 fv hfv X0 SQ Av) (by decide) (by decide) rfl (lenOf pd_4 rfl) rfl (Nat.le_of_ble_eq_true rfl) d13_12 rfl (by decide) (by decide) ?_
  rintro _ _ ⟨rfl, rfl⟩
  show Rn w l _ n0 _ 15 #[.val (.ref s), .val (.int (1 : Int32))] [(.int (nar .char (x1 &&& (255 : Int32)).toUInt32.toUInt16.toUInt32.toInt32))] h0 0 0
  exact Rn.retN K .char rfl (by simp) d13_15 (by decide) (by decide) ⟨rfl, rfl⟩
theorem pn_m_pci30 : plainName "jdk/internal/util/Preconditions" = true := by first | (simp [plainName, overriddenIn]; done) | decide +kernel
set_option maxRecDepth 65536 in
set_option maxHeartbeats 40000000 in
theorem m_pci30 (l : Launch) (Z : State) (a0 : Array Value) (hw : ∀ d ∈ tables_1, d.before a0 Z = true) (n0 : Nat) (h0 : Heap) (fv : Value) (hfv : fv.isRef = true) (X0 : Old Z n0 h0) :
    Met l Z (⟨"jdk/internal/util/Preconditions", "checkIndex", "(IILjava/util/function/BiFunction;)I"⟩ : MethodName) jdk_41_method_11_code 3 (some .int) ({ frames := 0, cells := 0, slots := 0, locals := 0 } : Room) n0 [] #[(.int (0 : Int32)), (.int (3 : Int32)), fv] h0 (fun v h => v = some (.int (0 : Int32)) ∧ h0 = h) := by
  refine Met.intro (Ls := #[.val (.int (0 : Int32)), .val (.int (3 : Int32)), .val fv]) (plainFor_of_name pn_m_pci30) hw (fun m => by (rcases XT.refc hfv with qfv | ⟨_, qfv⟩ <;> rw [qfv]) <;> rfl) ?_
  intro w K0
  have K : Cx w Z a0 "jdk/internal/util/Preconditions" jdk_41_method_11_code 3 (some .int) "checkIndex" := K0
  refine Rn.iloadN K (q := 1) d17_0 rfl rfl ?_
  refine Rn.ifN K (q := 4) d17_1 (XT.i0_lt_f (by decide)) rfl ?_
  refine Rn.iloadN K (q := 5) d17_4 rfl rfl ?_
  refine Rn.iloadN K (q := 6) d17_5 rfl rfl ?_
  refine Rn.icY K (q := 16) d17_6 (XT.ii_lt_t (by decide)) (by decide) (by decide) ?_
  refine Rn.iloadN K (q := 17) d17_16 rfl rfl ?_
  exact Rn.retI K rfl d17_17 (by decide) (by decide) ⟨rfl, rfl⟩
theorem pn_m_cki30 : plainName "java/lang/String" = true := by first | (simp [plainName, overriddenIn]; done) | decide +kernel
set_option maxRecDepth 65536 in
set_option maxHeartbeats 40000000 in
theorem m_cki30 (l : Launch) (Z : State) (a0 : Array Value) (hw : ∀ d ∈ tables_1, d.before a0 Z = true) (n0 : Nat) (h0 : Heap) (fv : Value) (hfv : fv.isRef = true) (X0 : Old Z n0 h0) (SQ : Sta Z Z.heap "jdk/internal/util/Preconditions" "SIOOBE_FORMATTER" "Ljava/util/function/BiFunction;" fv) :
    Met l Z (⟨"java/lang/String", "checkIndex", "(II)V"⟩ : MethodName) jdk_42_method_155_code 2 none ({ frames := 1, cells := 0, slots := 0, locals := 14 } : Room) n0 [] #[(.int (0 : Int32)), (.int (3 : Int32))] h0 (fun v h => v = none ∧ h0 = h) := by
  refine Met.intro (Ls := #[.val (.int (0 : Int32)), .val (.int (3 : Int32))]) (plainFor_of_name pn_m_cki30) hw (fun m => by first | rfl | (simp [entryFrame, mkF, argsToLocals, Value.category]; done)) ?_
  intro w K0
  have K : Cx w Z a0 "java/lang/String" jdk_42_method_155_code 2 none "checkIndex" := K0
  refine Rn.iloadN K (q := 1) d16_0 rfl rfl ?_
  refine Rn.iloadN K (q := 2) d16_1 rfl rfl ?_
  refine Rn.getS K (q := 5) (List.mem_of_getElem? (i := 78) rfl) (SQ.ext X0.2) d16_2 rfl ?_
  refine Rn.stat K (q := 8) (W := 0) (y := (⟨"jdk/internal/util/Preconditions", "checkIndex", "(IILjava/util/function/BiFunction;)I"⟩ : MethodName)) (argsL := [(.int (0 : Int32)), (.int (3 : Int32)), fv]) (rest := []) (List.mem_of_getElem? (i := 80) rfl) (List.mem_of_getElem? (i := 81) rfl) (List.mem_of_getElem? (i := 82) rfl) (List.mem_of_getElem? (i := 79) rfl) (by decide) (m_pci30 l Z a0 hw n0 h0 fv hfv X0) (by decide) (by decide) rfl (lenOf pd_2 rfl) rfl (Nat.le_of_ble_eq_true rfl) d16_5 rfl (by decide) (by decide) ?_
  rintro _ _ ⟨rfl, rfl⟩
  show Rn w l _ n0 _ 8 #[.val (.int (0 : Int32)), .val (.int (3 : Int32))] [(.int (0 : Int32))] h0 0 0
  refine Rn.pop K (q := 9) d16_8 rfl rfl ?_
  exact Rn.retV K rfl d16_9 (by decide) (by decide) ⟨rfl, rfl⟩
theorem pn_m_lch30 : plainName "java/lang/StringLatin1" = true := by first | (simp [plainName, overriddenIn]; done) | decide +kernel
set_option maxRecDepth 65536 in
set_option maxHeartbeats 40000000 in
theorem m_lch30 (l : Launch) (Z : State) (a0 : Array Value) (hw : ∀ d ∈ tables_1, d.before a0 Z = true) (n0 : Nat) (h0 : Heap) (v : Addr) (k : ClassId) (x0 x1 x2 : Int32) (fv : Value) (hfv : fv.isRef = true) (X0 : Old Z n0 h0) (SQ : Sta Z Z.heap "jdk/internal/util/Preconditions" "SIOOBE_FORMATTER" "Ljava/util/function/BiFunction;" fv) (Av : Arv Z h0 v k .byte (3 : Int32) [(.int x0), (.int x1), (.int x2)] (.int (0 : Int32))) :
    Met l Z (⟨"java/lang/StringLatin1", "charAt", "([BI)C"⟩ : MethodName) jdk_43_method_2_code 2 (some .char) ({ frames := 2, cells := 0, slots := 0, locals := 27 } : Room) n0 [] #[(.ref v), (.int (0 : Int32))] h0 (fun v h => v = some (.int (nar .char (x0 &&& (255 : Int32)).toUInt32.toUInt16.toUInt32.toInt32)) ∧ h0 = h) := by
  refine Met.intro (Ls := #[.val (.ref v), .val (.int (0 : Int32))]) (plainFor_of_name pn_m_lch30) hw (fun m => by first | rfl | (simp [entryFrame, mkF, argsToLocals, Value.category]; done)) ?_
  intro w K0
  have K : Cx w Z a0 "java/lang/StringLatin1" jdk_43_method_2_code 2 (some .char) "charAt" := K0
  refine Rn.iloadN K (q := 1) d15_0 rfl rfl ?_
  refine Rn.aloadN K (q := 2) d15_1 rfl rfl rfl ?_
  refine Rn.arraylength K (q := 3) Av d15_2 rfl ?_
  refine Rn.stat K (q := 6) (W := 0) (y := (⟨"java/lang/String", "checkIndex", "(II)V"⟩ : MethodName)) (argsL := [(.int (0 : Int32)), (.int (3 : Int32))]) (rest := []) (List.mem_of_getElem? (i := 75) rfl) (List.mem_of_getElem? (i := 76) rfl) (List.mem_of_getElem? (i := 77) rfl) (List.mem_of_getElem? (i := 6) rfl) (by decide) (m_cki30 l Z a0 hw n0 h0 fv hfv X0 SQ) (by decide) (by decide) rfl (lenOf pd_3 rfl) rfl (Nat.le_of_ble_eq_true rfl) d15_3 rfl (by decide) (by decide) ?_
  rintro _ _ ⟨rfl, rfl⟩
  show Rn w l _ n0 _ 6 #[.val (.ref v), .val (.int (0 : Int32))] [] h0 0 0
  refine Rn.aloadN K (q := 7) d15_6 rfl rfl rfl ?_
  refine Rn.iloadN K (q := 8) d15_7 rfl rfl ?_
  refine Rn.baloadB K (q := 9) (v := (.int x0)) Av (by decide) rfl d15_8 rfl ?_
  refine Rn.sipush K (q := 12) (255 : Int32) d15_9 rfl rfl ?_
  refine Rn.iand K (q := 13) d15_12 rfl ?_
  refine Rn.i2c K (q := 14) d15_13 rfl ?_
  exact Rn.retN K .char rfl (by simp) d15_14 (by decide) (by decide) ⟨rfl, rfl⟩
theorem pn_m_ch30 : plainName "java/lang/String" = true := by first | (simp [plainName, overriddenIn]; done) | decide +kernel
set_option maxRecDepth 65536 in
set_option maxHeartbeats 40000000 in
theorem m_ch30 (l : Launch) (Z : State) (a0 : Array Value) (hw : ∀ d ∈ tables_1, d.before a0 Z = true) (n0 : Nat) (h0 : Heap) (s v : Addr) (k : ClassId) (cst : Int32) (x0 x1 x2 : Int32) (fv : Value) (hfv : fv.isRef = true) (X0 : Old Z n0 h0) (SC : Sta Z Z.heap "java/lang/String" "COMPACT_STRINGS" "Z" (.int cst)) (hcs : ¬ cst = 0) (SQ : Sta Z Z.heap "jdk/internal/util/Preconditions" "SIOOBE_FORMATTER" "Ljava/util/function/BiFunction;" fv) (Es : Exa Z h0 s "java/lang/String") (Fc : Fld Z h0 s "java/lang/String" "coder" "B" (.int (0 : Int32))) (Fv : Fld Z h0 s "java/lang/String" "value" "[B" (.ref v)) (Av : Arv Z h0 v k .byte (3 : Int32) [(.int x0), (.int x1), (.int x2)] (.int (0 : Int32))) :
    Met l Z (⟨"java/lang/String", "charAt", "(I)C"⟩ : MethodName) jdk_42_method_56_code 2 (some .char) ({ frames := 3, cells := 0, slots := 0, locals := 40 } : Room) n0 [] #[(.ref s), (.int (0 : Int32))] h0 (fun v h => v = some (.int (nar .char (nar .char (x0 &&& (255 : Int32)).toUInt32.toUInt16.toUInt32.toInt32))) ∧ h0 = h) := by
  refine Met.intro (Ls := #[.val (.ref s), .val (.int (0 : Int32))]) (plainFor_of_name pn_m_ch30) hw (fun m => by first | rfl | (simp [entryFrame, mkF, argsToLocals, Value.category]; done)) ?_
  intro w K0
  have K : Cx w Z a0 "java/lang/String" jdk_42_method_56_code 2 (some .char) "charAt" := K0
  refine Rn.aloadN K (q := 1) d13_0 rfl rfl rfl ?_
  refine Rn.virt K (q := 4) (W := 0) (y := (⟨"java/lang/String", "isLatin1", "()Z"⟩ : MethodName)) (z := (⟨"java/lang/String", "isLatin1", "()Z"⟩ : MethodName)) (b := s) (argsL := []) (rest := []) (List.mem_of_getElem? (i := 66) rfl) (List.mem_of_getElem? (i := 67) rfl) (nfs K (List.mem_of_getElem? (i := 69) rfl)) (List.mem_of_getElem? (i := 69) rfl) (List.mem_of_getElem? (i := 68) rfl) (List.mem_of_getElem? (i := 70) rfl) (List.mem_of_getElem? (i := 6) rfl) (by decide) (m_lat l Z a0 hw n0 h0 s cst X0 SC hcs Fc) Es (by decide) (by decide) rfl (lenOf pd_0 rfl) rfl (Nat.le_of_ble_eq_true rfl) d13_1 rfl (by decide) (by decide) ?_
  rintro _ _ ⟨rfl, rfl⟩
  show Rn w l _ n0 _ 4 #[.val (.ref s), .val (.int (0 : Int32))] [(.int (1 : Int32))] h0 0 0
  refine Rn.ifN K (q := 7) d13_4 (XT.i0_eq_f (by decide)) rfl ?_
  refine Rn.aloadN K (q := 8) d13_7 rfl rfl rfl ?_
  refine Rn.getF K (q := 11) (List.mem_of_getElem? (i := 24) rfl) Via.refl Fv d13_8 rfl ?_
  refine Rn.iloadN K (q := 12) d13_11 rfl rfl ?_
  refine Rn.stat K (q := 15) (W := 0) (y := (⟨"java/lang/StringLatin1", "charAt", "([BI)C"⟩ : MethodName)) (argsL := [(.ref v), (.int (0 : Int32))]) (rest := []) (List.mem_of_getElem? (i := 71) rfl) (List.mem_of_getElem? (i := 72) rfl) (List.mem_of_getElem? (i := 74) rfl) (List.mem_of_getElem? (i := 73) rfl) (by decide) (m_lch30 l Z a0 hw n0 h0 v k x0 x1 x2 fv hfv X0 SQ Av) (by decide) (by decide) rfl (lenOf pd_4 rfl) rfl (Nat.le_of_ble_eq_true rfl) d13_12 rfl (by decide) (by decide) ?_
  rintro _ _ ⟨rfl, rfl⟩
  show Rn w l _ n0 _ 15 #[.val (.ref s), .val (.int (0 : Int32))] [(.int (nar .char (x0 &&& (255 : Int32)).toUInt32.toUInt16.toUInt32.toInt32))] h0 0 0
  exact Rn.retN K .char rfl (by simp) d13_15 (by decide) (by decide) ⟨rfl, rfl⟩
theorem pn_m_pci32 : plainName "jdk/internal/util/Preconditions" = true := by first | (simp [plainName, overriddenIn]; done) | decide +kernel
set_option maxRecDepth 65536 in
set_option maxHeartbeats 40000000 in
theorem m_pci32 (l : Launch) (Z : State) (a0 : Array Value) (hw : ∀ d ∈ tables_1, d.before a0 Z = true) (n0 : Nat) (h0 : Heap) (fv : Value) (hfv : fv.isRef = true) (X0 : Old Z n0 h0) :
    Met l Z (⟨"jdk/internal/util/Preconditions", "checkIndex", "(IILjava/util/function/BiFunction;)I"⟩ : MethodName) jdk_41_method_11_code 3 (some .int) ({ frames := 0, cells := 0, slots := 0, locals := 0 } : Room) n0 [] #[(.int (2 : Int32)), (.int (3 : Int32)), fv] h0 (fun v h => v = some (.int (2 : Int32)) ∧ h0 = h) := by
  refine Met.intro (Ls := #[.val (.int (2 : Int32)), .val (.int (3 : Int32)), .val fv]) (plainFor_of_name pn_m_pci32) hw (fun m => by (rcases XT.refc hfv with qfv | ⟨_, qfv⟩ <;> rw [qfv]) <;> rfl) ?_
  intro w K0
  have K : Cx w Z a0 "jdk/internal/util/Preconditions" jdk_41_method_11_code 3 (some .int) "checkIndex" := K0
  refine Rn.iloadN K (q := 1) d17_0 rfl rfl ?_
  refine Rn.ifN K (q := 4) d17_1 (XT.i0_lt_f (by decide)) rfl ?_
  refine Rn.iloadN K (q := 5) d17_4 rfl rfl ?_
  refine Rn.iloadN K (q := 6) d17_5 rfl rfl ?_
  refine Rn.icY K (q := 16) d17_6 (XT.ii_lt_t (by decide)) (by decide) (by decide) ?_
  refine Rn.iloadN K (q := 17) d17_16 rfl rfl ?_
  exact Rn.retI K rfl d17_17 (by decide) (by decide) ⟨rfl, rfl⟩
theorem pn_m_cki32 : plainName "java/lang/String" = true := by first | (simp [plainName, overriddenIn]; done) | decide +kernel
set_option maxRecDepth 65536 in
set_option maxHeartbeats 40000000 in
theorem m_cki32 (l : Launch) (Z : State) (a0 : Array Value) (hw : ∀ d ∈ tables_1, d.before a0 Z = true) (n0 : Nat) (h0 : Heap) (fv : Value) (hfv : fv.isRef = true) (X0 : Old Z n0 h0) (SQ : Sta Z Z.heap "jdk/internal/util/Preconditions" "SIOOBE_FORMATTER" "Ljava/util/function/BiFunction;" fv) :
    Met l Z (⟨"java/lang/String", "checkIndex", "(II)V"⟩ : MethodName) jdk_42_method_155_code 2 none ({ frames := 1, cells := 0, slots := 0, locals := 14 } : Room) n0 [] #[(.int (2 : Int32)), (.int (3 : Int32))] h0 (fun v h => v = none ∧ h0 = h) := by
  refine Met.intro (Ls := #[.val (.int (2 : Int32)), .val (.int (3 : Int32))]) (plainFor_of_name pn_m_cki32) hw (fun m => by first | rfl | (simp [entryFrame, mkF, argsToLocals, Value.category]; done)) ?_
  intro w K0
  have K : Cx w Z a0 "java/lang/String" jdk_42_method_155_code 2 none "checkIndex" := K0
  refine Rn.iloadN K (q := 1) d16_0 rfl rfl ?_
  refine Rn.iloadN K (q := 2) d16_1 rfl rfl ?_
  refine Rn.getS K (q := 5) (List.mem_of_getElem? (i := 78) rfl) (SQ.ext X0.2) d16_2 rfl ?_
  refine Rn.stat K (q := 8) (W := 0) (y := (⟨"jdk/internal/util/Preconditions", "checkIndex", "(IILjava/util/function/BiFunction;)I"⟩ : MethodName)) (argsL := [(.int (2 : Int32)), (.int (3 : Int32)), fv]) (rest := []) (List.mem_of_getElem? (i := 80) rfl) (List.mem_of_getElem? (i := 81) rfl) (List.mem_of_getElem? (i := 82) rfl) (List.mem_of_getElem? (i := 79) rfl) (by decide) (m_pci32 l Z a0 hw n0 h0 fv hfv X0) (by decide) (by decide) rfl (lenOf pd_2 rfl) rfl (Nat.le_of_ble_eq_true rfl) d16_5 rfl (by decide) (by decide) ?_
  rintro _ _ ⟨rfl, rfl⟩
  show Rn w l _ n0 _ 8 #[.val (.int (2 : Int32)), .val (.int (3 : Int32))] [(.int (2 : Int32))] h0 0 0
  refine Rn.pop K (q := 9) d16_8 rfl rfl ?_
  exact Rn.retV K rfl d16_9 (by decide) (by decide) ⟨rfl, rfl⟩
theorem pn_m_lch32 : plainName "java/lang/StringLatin1" = true := by first | (simp [plainName, overriddenIn]; done) | decide +kernel
set_option maxRecDepth 65536 in
set_option maxHeartbeats 40000000 in
theorem m_lch32 (l : Launch) (Z : State) (a0 : Array Value) (hw : ∀ d ∈ tables_1, d.before a0 Z = true) (n0 : Nat) (h0 : Heap) (v : Addr) (k : ClassId) (x0 x1 x2 : Int32) (fv : Value) (hfv : fv.isRef = true) (X0 : Old Z n0 h0) (SQ : Sta Z Z.heap "jdk/internal/util/Preconditions" "SIOOBE_FORMATTER" "Ljava/util/function/BiFunction;" fv) (Av : Arv Z h0 v k .byte (3 : Int32) [(.int x0), (.int x1), (.int x2)] (.int (0 : Int32))) :
    Met l Z (⟨"java/lang/StringLatin1", "charAt", "([BI)C"⟩ : MethodName) jdk_43_method_2_code 2 (some .char) ({ frames := 2, cells := 0, slots := 0, locals := 27 } : Room) n0 [] #[(.ref v), (.int (2 : Int32))] h0 (fun v h => v = some (.int (nar .char (x2 &&& (255 : Int32)).toUInt32.toUInt16.toUInt32.toInt32)) ∧ h0 = h) := by
  refine Met.intro (Ls := #[.val (.ref v), .val (.int (2 : Int32))]) (plainFor_of_name pn_m_lch32) hw (fun m => by first | rfl | (simp [entryFrame, mkF, argsToLocals, Value.category]; done)) ?_
  intro w K0
  have K : Cx w Z a0 "java/lang/StringLatin1" jdk_43_method_2_code 2 (some .char) "charAt" := K0
  refine Rn.iloadN K (q := 1) d15_0 rfl rfl ?_
  refine Rn.aloadN K (q := 2) d15_1 rfl rfl rfl ?_
  refine Rn.arraylength K (q := 3) Av d15_2 rfl ?_
  refine Rn.stat K (q := 6) (W := 0) (y := (⟨"java/lang/String", "checkIndex", "(II)V"⟩ : MethodName)) (argsL := [(.int (2 : Int32)), (.int (3 : Int32))]) (rest := []) (List.mem_of_getElem? (i := 75) rfl) (List.mem_of_getElem? (i := 76) rfl) (List.mem_of_getElem? (i := 77) rfl) (List.mem_of_getElem? (i := 6) rfl) (by decide) (m_cki32 l Z a0 hw n0 h0 fv hfv X0 SQ) (by decide) (by decide) rfl (lenOf pd_3 rfl) rfl (Nat.le_of_ble_eq_true rfl) d15_3 rfl (by decide) (by decide) ?_
  rintro _ _ ⟨rfl, rfl⟩
  show Rn w l _ n0 _ 6 #[.val (.ref v), .val (.int (2 : Int32))] [] h0 0 0
  refine Rn.aloadN K (q := 7) d15_6 rfl rfl rfl ?_
  refine Rn.iloadN K (q := 8) d15_7 rfl rfl ?_
  refine Rn.baloadB K (q := 9) (v := (.int x2)) Av (by decide) rfl d15_8 rfl ?_
  refine Rn.sipush K (q := 12) (255 : Int32) d15_9 rfl rfl ?_
  refine Rn.iand K (q := 13) d15_12 rfl ?_
  refine Rn.i2c K (q := 14) d15_13 rfl ?_
  exact Rn.retN K .char rfl (by simp) d15_14 (by decide) (by decide) ⟨rfl, rfl⟩
theorem pn_m_ch32 : plainName "java/lang/String" = true := by first | (simp [plainName, overriddenIn]; done) | decide +kernel
set_option maxRecDepth 65536 in
set_option maxHeartbeats 40000000 in
theorem m_ch32 (l : Launch) (Z : State) (a0 : Array Value) (hw : ∀ d ∈ tables_1, d.before a0 Z = true) (n0 : Nat) (h0 : Heap) (s v : Addr) (k : ClassId) (cst : Int32) (x0 x1 x2 : Int32) (fv : Value) (hfv : fv.isRef = true) (X0 : Old Z n0 h0) (SC : Sta Z Z.heap "java/lang/String" "COMPACT_STRINGS" "Z" (.int cst)) (hcs : ¬ cst = 0) (SQ : Sta Z Z.heap "jdk/internal/util/Preconditions" "SIOOBE_FORMATTER" "Ljava/util/function/BiFunction;" fv) (Es : Exa Z h0 s "java/lang/String") (Fc : Fld Z h0 s "java/lang/String" "coder" "B" (.int (0 : Int32))) (Fv : Fld Z h0 s "java/lang/String" "value" "[B" (.ref v)) (Av : Arv Z h0 v k .byte (3 : Int32) [(.int x0), (.int x1), (.int x2)] (.int (0 : Int32))) :
    Met l Z (⟨"java/lang/String", "charAt", "(I)C"⟩ : MethodName) jdk_42_method_56_code 2 (some .char) ({ frames := 3, cells := 0, slots := 0, locals := 40 } : Room) n0 [] #[(.ref s), (.int (2 : Int32))] h0 (fun v h => v = some (.int (nar .char (nar .char (x2 &&& (255 : Int32)).toUInt32.toUInt16.toUInt32.toInt32))) ∧ h0 = h) := by
  refine Met.intro (Ls := #[.val (.ref s), .val (.int (2 : Int32))]) (plainFor_of_name pn_m_ch32) hw (fun m => by first | rfl | (simp [entryFrame, mkF, argsToLocals, Value.category]; done)) ?_
  intro w K0
  have K : Cx w Z a0 "java/lang/String" jdk_42_method_56_code 2 (some .char) "charAt" := K0
  refine Rn.aloadN K (q := 1) d13_0 rfl rfl rfl ?_
  refine Rn.virt K (q := 4) (W := 0) (y := (⟨"java/lang/String", "isLatin1", "()Z"⟩ : MethodName)) (z := (⟨"java/lang/String", "isLatin1", "()Z"⟩ : MethodName)) (b := s) (argsL := []) (rest := []) (List.mem_of_getElem? (i := 66) rfl) (List.mem_of_getElem? (i := 67) rfl) (nfs K (List.mem_of_getElem? (i := 69) rfl)) (List.mem_of_getElem? (i := 69) rfl) (List.mem_of_getElem? (i := 68) rfl) (List.mem_of_getElem? (i := 70) rfl) (List.mem_of_getElem? (i := 6) rfl) (by decide) (m_lat l Z a0 hw n0 h0 s cst X0 SC hcs Fc) Es (by decide) (by decide) rfl (lenOf pd_0 rfl) rfl (Nat.le_of_ble_eq_true rfl) d13_1 rfl (by decide) (by decide) ?_
  rintro _ _ ⟨rfl, rfl⟩
  show Rn w l _ n0 _ 4 #[.val (.ref s), .val (.int (2 : Int32))] [(.int (1 : Int32))] h0 0 0
  refine Rn.ifN K (q := 7) d13_4 (XT.i0_eq_f (by decide)) rfl ?_
  refine Rn.aloadN K (q := 8) d13_7 rfl rfl rfl ?_
  refine Rn.getF K (q := 11) (List.mem_of_getElem? (i := 24) rfl) Via.refl Fv d13_8 rfl ?_
  refine Rn.iloadN K (q := 12) d13_11 rfl rfl ?_
  refine Rn.stat K (q := 15) (W := 0) (y := (⟨"java/lang/StringLatin1", "charAt", "([BI)C"⟩ : MethodName)) (argsL := [(.ref v), (.int (2 : Int32))]) (rest := []) (List.mem_of_getElem? (i := 71) rfl) (List.mem_of_getElem? (i := 72) rfl) (List.mem_of_getElem? (i := 74) rfl) (List.mem_of_getElem? (i := 73) rfl) (by decide) (m_lch32 l Z a0 hw n0 h0 v k x0 x1 x2 fv hfv X0 SQ Av) (by decide) (by decide) rfl (lenOf pd_4 rfl) rfl (Nat.le_of_ble_eq_true rfl) d13_12 rfl (by decide) (by decide) ?_
  rintro _ _ ⟨rfl, rfl⟩
  show Rn w l _ n0 _ 15 #[.val (.ref s), .val (.int (2 : Int32))] [(.int (nar .char (x2 &&& (255 : Int32)).toUInt32.toUInt16.toUInt32.toInt32))] h0 0 0
  exact Rn.retN K .char rfl (by simp) d13_15 (by decide) (by decide) ⟨rfl, rfl⟩
theorem d19_0 : decode jdk_43_method_3_code 0 = .ok (.iload_n 0, 1) := by decide +kernel
theorem d19_1 : decode jdk_43_method_3_code 1 = .ok (.sipush 255, 3) := by decide +kernel
theorem d19_4 : decode jdk_43_method_3_code 4 = .ok (.if_icmp .gt 7, 3) := by decide +kernel
theorem d19_7 : decode jdk_43_method_3_code 7 = .ok (.iconst 1, 1) := by decide +kernel
theorem d19_8 : decode jdk_43_method_3_code 8 = .ok (.goto 4, 3) := by decide +kernel
theorem d19_12 : decode jdk_43_method_3_code 12 = .ok (.ireturn, 1) := by decide +kernel
theorem pn_m_can : plainName "java/lang/StringLatin1" = true := by first | (simp [plainName, overriddenIn]; done) | decide +kernel
set_option maxRecDepth 65536 in
set_option maxHeartbeats 40000000 in
theorem m_can (l : Launch) (Z : State) (a0 : Array Value) (hw : ∀ d ∈ tables_1, d.before a0 Z = true) (n0 : Nat) (h0 : Heap) (a : Int32) (X0 : Old Z n0 h0) (ha : ¬ (255 : Int32) < a) :
    Met l Z (⟨"java/lang/StringLatin1", "canEncode", "(C)Z"⟩ : MethodName) jdk_43_method_3_code 1 (some .boolean) ({ frames := 0, cells := 0, slots := 0, locals := 0 } : Room) n0 [] #[(.int a)] h0 (fun v h => v = some (.int (1 : Int32)) ∧ h0 = h) := by
  refine Met.intro (Ls := #[.val (.int a)]) (plainFor_of_name pn_m_can) hw (fun m => by first | rfl | (simp [entryFrame, mkF, argsToLocals, Value.category]; done)) ?_
  intro w K0
  have K : Cx w Z a0 "java/lang/StringLatin1" jdk_43_method_3_code 1 (some .boolean) "canEncode" := K0
  refine Rn.iloadN K (q := 1) d19_0 rfl rfl ?_
  refine Rn.sipush K (q := 4) (255 : Int32) d19_1 rfl rfl ?_
  refine Rn.icN K (q := 7) d19_4 (XT.ii_gt_f ha) rfl ?_
  refine Rn.iconst K (q := 8) (1 : Int32) d19_7 rfl rfl ?_
  refine Rn.goto K (q := 12) d19_8 (by decide) (by decide) ?_
  exact Rn.retN K .boolean rfl (by simp) d19_12 (by decide) (by decide) ⟨rfl, rfl⟩
theorem d20_0 : decode jdk_43_method_46_code 0 = .ok (.iconst 1, 1) := by decide +kernel
theorem d20_1 : decode jdk_43_method_46_code 1 = .ok (.newarray .byte, 2) := by decide +kernel
theorem d20_3 : decode jdk_43_method_46_code 3 = .ok (.dup, 1) := by decide +kernel
theorem d20_4 : decode jdk_43_method_46_code 4 = .ok (.iconst 0, 1) := by decide +kernel
theorem d20_5 : decode jdk_43_method_46_code 5 = .ok (.iload_n 0, 1) := by decide +kernel
theorem d20_6 : decode jdk_43_method_46_code 6 = .ok (.i2b, 1) := by decide +kernel
theorem d20_7 : decode jdk_43_method_46_code 7 = .ok (.bastore, 1) := by decide +kernel
theorem d20_8 : decode jdk_43_method_46_code 8 = .ok (.areturn, 1) := by decide +kernel
theorem pn_m_tob : plainName "java/lang/StringLatin1" = true := by first | (simp [plainName, overriddenIn]; done) | decide +kernel
set_option maxRecDepth 65536 in
set_option maxHeartbeats 40000000 in
theorem m_tob (l : Launch) (Z : State) (a0 : Array Value) (hw : ∀ d ∈ tables_1, d.before a0 Z = true) (n0 : Nat) (h0 : Heap) (a : Int32) (X0 : Old Z n0 h0) :
    Met l Z (⟨"java/lang/StringLatin1", "toBytes", "(C)[B"⟩ : MethodName) jdk_43_method_46_code 1 (some (.array .byte)) ({ frames := 0, cells := 1, slots := 1, locals := 0 } : Room) n0 [] #[(.int a)] h0 (fun v h => ∃ b k, v = some (.ref b) ∧ Keep h0 h [] ∧ Exa Z h b "[B" ∧ Arv Z h b k .byte (1 : Int32) [(.int (nar .byte a.toInt8.toInt32))] (.int (0 : Int32))) := by
  refine Met.intro (Ls := #[.val (.int a)]) (plainFor_of_name pn_m_tob) hw (fun m => by first | rfl | (simp [entryFrame, mkF, argsToLocals, Value.category]; done)) ?_
  intro w K0
  have K : Cx w Z a0 "java/lang/StringLatin1" jdk_43_method_46_code 1 (some (.array .byte)) "toBytes" := K0
  have K1 := Keep.refl h0 []
  refine Rn.iconst K (q := 1) (1 : Int32) d20_0 rfl rfl ?_
  refine Rn.newP K (q := 3) (cap := 1) (List.mem_of_getElem? (i := 19) rfl) (by decide) (by decide) (by decide) (by decide) (by decide) (ad := "[B") (by decide) d20_1 rfl ?_
  intro b1 h2 k4 gb1_ X3 A_b1 EA_b1
  have g_b1 : n0 ≤ b1 := by rw [gb1_]; exact X0.1 ▸ X0.2.1
  have sz_b1 : h0.size ≤ b1 := by rw [gb1_]; exact K1.1
  have f5 := X0.ext X3
  have f6 := K1.ext X3
  replace A_b1 : Arv Z h2 b1 k4 .byte (1 : Int32) [(.int (0 : Int32))] (.int (0 : Int32)) := A_b1.pad (pad_rep [] (.int (0 : Int32)) 1)
  show Rn w l _ n0 _ 3 #[.val (.int a)] [(.ref b1)] h2 1 1
  refine Rn.dup K (q := 4) d20_3 rfl rfl ?_
  refine Rn.iconst K (q := 5) (0 : Int32) d20_4 rfl rfl ?_
  refine Rn.iloadN K (q := 6) d20_5 rfl rfl ?_
  refine Rn.i2b K (q := 7) d20_6 rfl ?_
  refine Rn.bastoreB K (q := 8) (i := 0) A_b1 (by decide) rfl (Nat.le_of_ble_eq_true rfl) g_b1 d20_7 rfl ?_
  intro h7 W8 A9
  have f10 := f5.wr W8 g_b1
  have f11 := f6.wr W8 (Or.inr sz_b1)
  have f12 := EA_b1.wr W8
  replace A9 : Arv Z h7 b1 k4 .byte (1 : Int32) [(.int (nar .byte a.toInt8.toInt32))] (.int (0 : Int32)) := A9
  exact Rn.retA K (.array .byte) rfl rfl rfl d20_8 (by decide) (by decide) ⟨_, _, rfl, f11, f12, A9⟩
theorem d21_0 : decode jdk_42_method_151_code 0 = .ok (.aload_n 0, 1) := by decide +kernel
theorem d21_1 : decode jdk_42_method_151_code 1 = .ok (.invokespecial 1, 3) := by decide +kernel
theorem d21_4 : decode jdk_42_method_151_code 4 = .ok (.aload_n 0, 1) := by decide +kernel
theorem d21_5 : decode jdk_42_method_151_code 5 = .ok (.aload_n 1, 1) := by decide +kernel
theorem d21_6 : decode jdk_42_method_151_code 6 = .ok (.putfield 9, 3) := by decide +kernel
theorem d21_9 : decode jdk_42_method_151_code 9 = .ok (.aload_n 0, 1) := by decide +kernel
theorem d21_10 : decode jdk_42_method_151_code 10 = .ok (.iload_n 2, 1) := by decide +kernel
theorem d21_11 : decode jdk_42_method_151_code 11 = .ok (.putfield 15, 3) := by decide +kernel
theorem d21_14 : decode jdk_42_method_151_code 14 = .ok (.return_, 1) := by decide +kernel
theorem pn_m_sbb : plainName "java/lang/String" = true := by first | (simp [plainName, overriddenIn]; done) | decide +kernel
set_option maxRecDepth 65536 in
set_option maxHeartbeats 40000000 in
theorem m_sbb (l : Launch) (Z : State) (a0 : Array Value) (hw : ∀ d ∈ tables_1, d.before a0 Z = true) (n0 : Nat) (h0 : Heap) (s b : Addr) (X0 : Old Z n0 h0) (Es : Exa Z h0 s "java/lang/String") (gs : n0 ≤ s) (Fv : Fld Z h0 s "java/lang/String" "value" "[B" .null) (Fc : Fld Z h0 s "java/lang/String" "coder" "B" (.int (0 : Int32))) :
    Met l Z (⟨"java/lang/String", "<init>", "([BB)V"⟩ : MethodName) jdk_42_method_151_code 3 none ({ frames := 1, cells := 0, slots := 0, locals := 12 } : Room) n0 [] #[(.ref s), (.ref b), (.int (0 : Int32))] h0 (fun v h => v = none ∧ Keep h0 h [s] ∧ Fld Z h s "java/lang/String" "value" "[B" (.ref b) ∧ Fld Z h s "java/lang/String" "coder" "B" (.int (0 : Int32))) := by
  refine Met.intro (Ls := #[.val (.ref s), .val (.ref b), .val (.int (0 : Int32))]) (plainFor_of_name pn_m_sbb) hw (fun m => by first | rfl | (simp [entryFrame, mkF, argsToLocals, Value.category]; done)) ?_
  intro w K0
  have K : Cx w Z a0 "java/lang/String" jdk_42_method_151_code 3 none "<init>" := K0
  have K1 := Keep.refl h0 [s]
  refine Rn.aloadN K (q := 1) d21_0 rfl rfl rfl ?_
  refine Rn.initO K (q := 4) (W := 0) (List.mem_of_getElem? (i := 15) rfl) (List.mem_of_getElem? (i := 16) rfl) (List.mem_of_getElem? (i := 17) rfl) (by decide) (by decide) rfl (Nat.le_of_ble_eq_true rfl) d21_1 rfl ?_
  refine Rn.aloadN K (q := 5) d21_4 rfl rfl rfl ?_
  refine Rn.aloadN K (q := 6) d21_5 rfl rfl rfl ?_
  refine Rn.putF K (q := 9) (ty := (.array .byte)) (List.mem_of_getElem? (i := 24) rfl) Via.refl Fv Es (Or.inr ⟨(List.mem_of_getElem? (i := 20) rfl), rfl, rfl⟩) (List.mem_of_getElem? (i := 5) rfl) (by decide) rfl rfl gs d21_6 rfl ?_
  intro h1 W2
  have f3 := X0.wr W2 gs
  have f4 := K1.wr W2 (Or.inl (List.mem_of_getElem? (i := 0) rfl))
  have f5 := Es.wr W2
  have f6 := Fld.same W2 Fv
  have f7 := Fld.other W2 Fc (Or.inr (slot_ne (Or.inr (K.hw _ (List.mem_of_getElem? (i := 21) rfl))) (Or.inr (K.hw _ (List.mem_of_getElem? (i := 20) rfl))) (by decide) (t := .byte) (t' := (.array .byte)) (by decide) (by decide)))
  refine Rn.aloadN K (q := 10) d21_9 rfl rfl rfl ?_
  refine Rn.iloadN K (q := 11) d21_10 rfl rfl ?_
  refine Rn.putF K (q := 14) (ty := .byte) (v' := .int (nar .byte (0 : Int32))) (List.mem_of_getElem? (i := 25) rfl) Via.refl f7 f5 (Or.inr ⟨(List.mem_of_getElem? (i := 21) rfl), rfl, rfl⟩) (List.mem_of_getElem? (i := 5) rfl) (by decide) rfl (fits_nar_byte _) gs d21_11 rfl ?_
  intro h8 W9
  have f10 := f3.wr W9 gs
  have f11 := f4.wr W9 (Or.inl (List.mem_of_getElem? (i := 0) rfl))
  have f12 := f5.wr W9
  have f13 := Fld.other W9 f6 (Or.inr (slot_ne (Or.inr (K.hw _ (List.mem_of_getElem? (i := 20) rfl))) (Or.inr (K.hw _ (List.mem_of_getElem? (i := 21) rfl))) (by decide) (t := (.array .byte)) (t' := .byte) (by decide) (by decide)))
  have f14 := Fld.same W9 f7
  exact Rn.retV K rfl d21_14 (by decide) (by decide) ⟨rfl, f11, f13, f14⟩
theorem d18_0 : decode jdk_42_method_139_code 0 = .ok (.getstatic 38, 3) := by decide +kernel
theorem d18_3 : decode jdk_42_method_139_code 3 = .ok (.ifCond .eq 23, 3) := by decide +kernel
theorem d18_6 : decode jdk_42_method_139_code 6 = .ok (.iload_n 0, 1) := by decide +kernel
theorem d18_7 : decode jdk_42_method_139_code 7 = .ok (.invokestatic 1015, 3) := by decide +kernel
theorem d18_10 : decode jdk_42_method_139_code 10 = .ok (.ifCond .eq 16, 3) := by decide +kernel
theorem d18_13 : decode jdk_42_method_139_code 13 = .ok (.new 10, 3) := by decide +kernel
theorem d18_16 : decode jdk_42_method_139_code 16 = .ok (.dup, 1) := by decide +kernel
theorem d18_17 : decode jdk_42_method_139_code 17 = .ok (.iload_n 0, 1) := by decide +kernel
theorem d18_18 : decode jdk_42_method_139_code 18 = .ok (.invokestatic 1018, 3) := by decide +kernel
theorem d18_21 : decode jdk_42_method_139_code 21 = .ok (.iconst 0, 1) := by decide +kernel
theorem d18_22 : decode jdk_42_method_139_code 22 = .ok (.invokespecial 209, 3) := by decide +kernel
theorem d18_25 : decode jdk_42_method_139_code 25 = .ok (.areturn, 1) := by decide +kernel
theorem pn_m_vof : plainName "java/lang/String" = true := by first | (simp [plainName, overriddenIn]; done) | decide +kernel
set_option maxRecDepth 65536 in
set_option maxHeartbeats 40000000 in
theorem m_vof (l : Launch) (Z : State) (a0 : Array Value) (hw : ∀ d ∈ tables_1, d.before a0 Z = true) (n0 : Nat) (h0 : Heap) (a : Int32) (cst : Int32) (X0 : Old Z n0 h0) (SC : Sta Z Z.heap "java/lang/String" "COMPACT_STRINGS" "Z" (.int cst)) (hcs : ¬ cst = 0) (ha : ¬ (255 : Int32) < a) :
    Met l Z (⟨"java/lang/String", "valueOf", "(C)Ljava/lang/String;"⟩ : MethodName) jdk_42_method_139_code 1 (some (.object "java/lang/String")) ({ frames := 2, cells := 2, slots := 5, locals := 30 } : Room) n0 [] #[(.int a)] h0 (fun r h => ∃ s v k, r = some (.ref s) ∧ Keep h0 h [] ∧ Exa Z h s "java/lang/String" ∧ Fld Z h s "java/lang/String" "coder" "B" (.int (0 : Int32)) ∧ Fld Z h s "java/lang/String" "value" "[B" (.ref v) ∧ Arv Z h v k .byte (1 : Int32) [(.int (nar .byte a.toInt8.toInt32))] (.int (0 : Int32))) := by
  refine Met.intro (Ls := #[.val (.int a)]) (plainFor_of_name pn_m_vof) hw (fun m => by first | rfl | (simp [entryFrame, mkF, argsToLocals, Value.category]; done)) ?_
  intro w K0
  have K : Cx w Z a0 "java/lang/String" jdk_42_method_139_code 1 (some (.object "java/lang/String")) "valueOf" := K0
  have K1 := Keep.refl h0 []
  refine Rn.getS K (q := 3) (List.mem_of_getElem? (i := 35) rfl) (SC.ext X0.2) d18_0 rfl ?_
  refine Rn.ifN K (q := 6) d18_3 (XT.i0_eq_f hcs) rfl ?_
  refine Rn.iloadN K (q := 7) d18_6 rfl rfl ?_
  refine Rn.stat K (q := 10) (W := 0) (y := (⟨"java/lang/StringLatin1", "canEncode", "(C)Z"⟩ : MethodName)) (argsL := [(.int a)]) (rest := []) (List.mem_of_getElem? (i := 86) rfl) (List.mem_of_getElem? (i := 87) rfl) (List.mem_of_getElem? (i := 88) rfl) (List.mem_of_getElem? (i := 73) rfl) (by decide) (m_can l Z a0 hw n0 h0 a X0 ha) (by decide) (by decide) rfl (lenOf pd_5 rfl) rfl (Nat.le_of_ble_eq_true rfl) d18_7 rfl (by decide) (by decide) ?_
  rintro _ _ ⟨rfl, rfl⟩
  show Rn w l _ n0 _ 10 #[.val (.int a)] [(.int (1 : Int32))] h0 0 0
  refine Rn.ifN K (q := 13) d18_10 (XT.i0_eq_f (by decide)) rfl ?_
  refine Rn.newO K (q := 16) (List.mem_of_getElem? (i := 89) rfl) (List.mem_of_getElem? (i := 5) rfl) (List.mem_of_getElem? (i := 6) rfl) (by decide) (by decide) d18_13 rfl ?_
  intro b1 h2 gb1_ X3 A_b1 D4
  have g_b1 : n0 ≤ b1 := by rw [gb1_]; exact X0.1 ▸ X0.2.1
  have sz_b1 : h0.size ≤ b1 := by rw [gb1_]; exact K1.1
  have f5 := X0.ext X3
  have f6 := K1.ext X3
  have f7 : Fld Z h2 b1 "java/lang/String" "value" "[B" .null := D4 (Or.inr (K.hw _ (List.mem_of_getElem? (i := 20) rfl))) (ty := (.array .byte)) (by decide)
  have f8 : Fld Z h2 b1 "java/lang/String" "coder" "B" (.int (0 : Int32)) := D4 (Or.inr (K.hw _ (List.mem_of_getElem? (i := 21) rfl))) (ty := .byte) (by decide)
  show Rn w l _ n0 _ 16 #[.val (.int a)] [(.ref b1)] h2 1 4
  refine Rn.dup K (q := 17) d18_16 rfl rfl ?_
  refine Rn.iloadN K (q := 18) d18_17 rfl rfl ?_
  refine Rn.stat K (q := 21) (W := 2) (y := (⟨"java/lang/StringLatin1", "toBytes", "(C)[B"⟩ : MethodName)) (argsL := [(.int a)]) (rest := [(.ref b1), (.ref b1)]) (List.mem_of_getElem? (i := 90) rfl) (List.mem_of_getElem? (i := 91) rfl) (List.mem_of_getElem? (i := 92) rfl) (List.mem_of_getElem? (i := 73) rfl) (by decide) (m_tob l Z a0 hw n0 h2 a f5) (by decide) (by decide) rfl (lenOf pd_6 rfl) rfl (Nat.le_of_ble_eq_true rfl) d18_18 rfl (by decide) (by decide) ?_
  rintro _ h9 ⟨v, k, rfl, K10, E11, A12⟩
  have f13 := f5.keep K10 all0
  have f14 := f6.trans K10 all0
  have f15 := A_b1.keep K10
  have f16 := f7.keep K10 nin0
  have f17 := f8.keep K10 nin0
  show Rn w l _ n0 _ 21 #[.val (.int a)] [(.ref v), (.ref b1), (.ref b1)] h9 2 5
  refine Rn.iconst K (q := 22) (0 : Int32) d18_21 rfl rfl ?_
  refine Rn.spec K (q := 25) (W := 1) (y := (⟨"java/lang/String", "<init>", "([BB)V"⟩ : MethodName)) (b := b1) (argsL := [(.ref v), (.int (0 : Int32))]) (rest := [(.ref b1)]) rfl (List.mem_of_getElem? (i := 93) rfl) (List.mem_of_getElem? (i := 94) rfl) (List.mem_of_getElem? (i := 95) rfl) (List.mem_of_getElem? (i := 6) rfl) (by decide) (m_sbb l Z a0 hw n0 h9 b1 v f13 f15 g_b1 f16 f17) (by decide) (by decide) rfl (lenOf pd_7 rfl) rfl (Nat.le_of_ble_eq_true rfl) d18_22 rfl (by decide) (by decide) ?_
  rintro _ h18 ⟨rfl, K19, F20, F21⟩
  have f22 := f13.keep K19 (allS g_b1 all0)
  have f23 := f14.trans K19 (allS (Or.inr sz_b1) all0)
  have f24 := f15.keep K19
  have f25 := E11.keep K19
  have f26 := A12.keep K19 (ninS (ne_exa E11 f15 (by decide)) nin0)
  show Rn w l _ n0 _ 25 #[.val (.int a)] [(.ref b1)] h18 2 5
  exact Rn.retA K (.object "java/lang/String") rfl rfl rfl d18_25 (by decide) (by decide) ⟨_, _, _, rfl, f23, f24, F21, F20, f26⟩
theorem d8_0 : decode jdk_52_method_21_code 0 = .ok (.iconst 0, 1) := by decide +kernel
theorem d8_1 : decode jdk_52_method_21_code 1 = .ok (.istore 5, 2) := by decide +kernel
theorem d8_3 : decode jdk_52_method_21_code 3 = .ok (.iload 5, 2) := by decide +kernel
theorem d8_5 : decode jdk_52_method_21_code 5 = .ok (.iload 4, 2) := by decide +kernel
theorem d8_7 : decode jdk_52_method_21_code 7 = .ok (.if_icmp .ge 37, 3) := by decide +kernel
theorem d8_10 : decode jdk_52_method_21_code 10 = .ok (.aload_n 0, 1) := by decide +kernel
theorem d8_11 : decode jdk_52_method_21_code 11 = .ok (.iload_n 1, 1) := by decide +kernel
theorem d8_12 : decode jdk_52_method_21_code 12 = .ok (.caload, 1) := by decide +kernel
theorem d8_13 : decode jdk_52_method_21_code 13 = .ok (.istore 6, 2) := by decide +kernel
theorem d8_15 : decode jdk_52_method_21_code 15 = .ok (.iload 6, 2) := by decide +kernel
theorem d8_17 : decode jdk_52_method_21_code 17 = .ok (.sipush 255, 3) := by decide +kernel
theorem d8_20 : decode jdk_52_method_21_code 20 = .ok (.if_icmp .le 6, 3) := by decide +kernel
theorem d8_26 : decode jdk_52_method_21_code 26 = .ok (.aload_n 2, 1) := by decide +kernel
theorem d8_27 : decode jdk_52_method_21_code 27 = .ok (.iload_n 3, 1) := by decide +kernel
theorem d8_28 : decode jdk_52_method_21_code 28 = .ok (.iload 6, 2) := by decide +kernel
theorem d8_30 : decode jdk_52_method_21_code 30 = .ok (.i2b, 1) := by decide +kernel
theorem d8_31 : decode jdk_52_method_21_code 31 = .ok (.bastore, 1) := by decide +kernel
theorem d8_32 : decode jdk_52_method_21_code 32 = .ok (.iinc 1 1, 3) := by decide +kernel
theorem d8_35 : decode jdk_52_method_21_code 35 = .ok (.iinc 3 1, 3) := by decide +kernel
theorem d8_38 : decode jdk_52_method_21_code 38 = .ok (.iinc 5 1, 3) := by decide +kernel
theorem d8_41 : decode jdk_52_method_21_code 41 = .ok (.goto (-38), 3) := by decide +kernel
theorem d8_44 : decode jdk_52_method_21_code 44 = .ok (.iload 4, 2) := by decide +kernel
theorem d8_46 : decode jdk_52_method_21_code 46 = .ok (.ireturn, 1) := by decide +kernel
theorem pn_m_cpr2 : plainName "java/lang/StringUTF16" = true := by first | (simp [plainName, overriddenIn]; done) | decide +kernel
set_option maxRecDepth 65536 in
set_option maxHeartbeats 40000000 in
theorem m_cpr2 (l : Launch) (Z : State) (a0 : Array Value) (hw : ∀ d ∈ tables_1, d.before a0 Z = true) (n0 : Nat) (h0 : Heap) (c b : Addr) (kc k : ClassId) (x0 x1 : Int32) (X0 : Old Z n0 h0) (Ec : Exa Z h0 c "[C") (Ac : Arv Z h0 c kc .char (2 : Int32) [(.int x0), (.int x1)] (.int (0 : Int32))) (Eb : Exa Z h0 b "[B") (Ab : Arv Z h0 b k .byte (2 : Int32) [(.int (0 : Int32)), (.int (0 : Int32))] (.int (0 : Int32))) (gb : n0 ≤ b) (hx0 : ¬ (255 : Int32) < x0) (hx1 : ¬ (255 : Int32) < x1) :
    Met l Z (⟨"java/lang/StringUTF16", "compress", "([CI[BII)I"⟩ : MethodName) jdk_52_method_21_code 7 (some .int) ({ frames := 0, cells := 0, slots := 0, locals := 0 } : Room) n0 [] #[(.ref c), (.int (0 : Int32)), (.ref b), (.int (0 : Int32)), (.int (2 : Int32))] h0 (fun v h => v = some (.int (2 : Int32)) ∧ Keep h0 h [b] ∧ Arv Z h b k .byte (2 : Int32) [(.int (nar .byte x0.toInt8.toInt32)), (.int (nar .byte x1.toInt8.toInt32))] (.int (0 : Int32))) := by
  refine Met.intro (Ls := #[.val (.ref c), .val (.int (0 : Int32)), .val (.ref b), .val (.int (0 : Int32)), .val (.int (2 : Int32)), .unset, .unset]) (plainFor_of_name pn_m_cpr2) hw (fun m => by first | rfl | (simp [entryFrame, mkF, argsToLocals, Value.category]; done)) ?_
  intro w K0
  have K : Cx w Z a0 "java/lang/StringUTF16" jdk_52_method_21_code 7 (some .int) "compress" := K0
  have K1 := Keep.refl h0 [b]
  refine Rn.iconst K (q := 1) (0 : Int32) d8_0 rfl rfl ?_
  refine Rn.istore K (q := 3) (Ls' := #[.val (.ref c), .val (.int (0 : Int32)), .val (.ref b), .val (.int (0 : Int32)), .val (.int (2 : Int32)), .val (.int (0 : Int32)), .unset]) d8_1 rfl rfl ?_
  refine Rn.iload K (q := 5) d8_3 rfl rfl ?_
  refine Rn.iload K (q := 7) d8_5 rfl rfl ?_
  refine Rn.icN K (q := 10) d8_7 (XT.ii_ge_f (by decide)) rfl ?_
  refine Rn.aloadN K (q := 11) d8_10 rfl rfl rfl ?_
  refine Rn.iloadN K (q := 12) d8_11 rfl rfl ?_
  refine Rn.caload K (q := 13) (v := (.int x0)) Ac (by decide) rfl d8_12 rfl ?_
  refine Rn.istore K (q := 15) (Ls' := #[.val (.ref c), .val (.int (0 : Int32)), .val (.ref b), .val (.int (0 : Int32)), .val (.int (2 : Int32)), .val (.int (0 : Int32)), .val (.int x0)]) d8_13 rfl rfl ?_
  refine Rn.iload K (q := 17) d8_15 rfl rfl ?_
  refine Rn.sipush K (q := 20) (255 : Int32) d8_17 rfl rfl ?_
  refine Rn.icY K (q := 26) d8_20 (XT.ii_le_t hx0) (by decide) (by decide) ?_
  refine Rn.aloadN K (q := 27) d8_26 rfl rfl rfl ?_
  refine Rn.iloadN K (q := 28) d8_27 rfl rfl ?_
  refine Rn.iload K (q := 30) d8_28 rfl rfl ?_
  refine Rn.i2b K (q := 31) d8_30 rfl ?_
  refine Rn.bastoreB K (q := 32) (i := 0) Ab (by decide) rfl (Nat.le_of_ble_eq_true rfl) gb d8_31 rfl ?_
  intro h1 W2 A3
  have f4 := X0.wr W2 gb
  have f5 := K1.wr W2 (Or.inl (List.mem_of_getElem? (i := 0) rfl))
  have f6 := Eb.wr W2
  have f7 := Ec.wr W2
  have f8 := Ac.other W2 (ne_exa Ec Eb (by decide))
  replace A3 : Arv Z h1 b k .byte (2 : Int32) [(.int (nar .byte x0.toInt8.toInt32)), (.int (0 : Int32))] (.int (0 : Int32)) := A3
  refine Rn.iinc K (q := 35) (Ls' := #[.val (.ref c), .val (.int (1 : Int32)), .val (.ref b), .val (.int (0 : Int32)), .val (.int (2 : Int32)), .val (.int (0 : Int32)), .val (.int x0)]) (1 : Int32) d8_32 rfl rfl rfl rfl ?_
  refine Rn.iinc K (q := 38) (Ls' := #[.val (.ref c), .val (.int (1 : Int32)), .val (.ref b), .val (.int (1 : Int32)), .val (.int (2 : Int32)), .val (.int (0 : Int32)), .val (.int x0)]) (1 : Int32) d8_35 rfl rfl rfl rfl ?_
  refine Rn.iinc K (q := 41) (Ls' := #[.val (.ref c), .val (.int (1 : Int32)), .val (.ref b), .val (.int (1 : Int32)), .val (.int (2 : Int32)), .val (.int (1 : Int32)), .val (.int x0)]) (1 : Int32) d8_38 rfl rfl rfl rfl ?_
  refine Rn.goto K (q := 3) d8_41 (by decide) (by decide) ?_
  refine Rn.iload K (q := 5) d8_3 rfl rfl ?_
  refine Rn.iload K (q := 7) d8_5 rfl rfl ?_
  refine Rn.icN K (q := 10) d8_7 (XT.ii_ge_f (by decide)) rfl ?_
  refine Rn.aloadN K (q := 11) d8_10 rfl rfl rfl ?_
  refine Rn.iloadN K (q := 12) d8_11 rfl rfl ?_
  refine Rn.caload K (q := 13) (v := (.int x1)) f8 (by decide) rfl d8_12 rfl ?_
  refine Rn.istore K (q := 15) (Ls' := #[.val (.ref c), .val (.int (1 : Int32)), .val (.ref b), .val (.int (1 : Int32)), .val (.int (2 : Int32)), .val (.int (1 : Int32)), .val (.int x1)]) d8_13 rfl rfl ?_
  refine Rn.iload K (q := 17) d8_15 rfl rfl ?_
  refine Rn.sipush K (q := 20) (255 : Int32) d8_17 rfl rfl ?_
  refine Rn.icY K (q := 26) d8_20 (XT.ii_le_t hx1) (by decide) (by decide) ?_
  refine Rn.aloadN K (q := 27) d8_26 rfl rfl rfl ?_
  refine Rn.iloadN K (q := 28) d8_27 rfl rfl ?_
  refine Rn.iload K (q := 30) d8_28 rfl rfl ?_
  refine Rn.i2b K (q := 31) d8_30 rfl ?_
  refine Rn.bastoreB K (q := 32) (i := 1) A3 (by decide) rfl (Nat.le_of_ble_eq_true rfl) gb d8_31 rfl ?_
  intro h9 W10 A11
  have f12 := f4.wr W10 gb
  have f13 := f5.wr W10 (Or.inl (List.mem_of_getElem? (i := 0) rfl))
  have f14 := f6.wr W10
  have f15 := f7.wr W10
  have f16 := f8.other W10 (ne_exa f7 f6 (by decide))
  replace A11 : Arv Z h9 b k .byte (2 : Int32) [(.int (nar .byte x0.toInt8.toInt32)), (.int (nar .byte x1.toInt8.toInt32))] (.int (0 : Int32)) := A11
  refine Rn.iinc K (q := 35) (Ls' := #[.val (.ref c), .val (.int (2 : Int32)), .val (.ref b), .val (.int (1 : Int32)), .val (.int (2 : Int32)), .val (.int (1 : Int32)), .val (.int x1)]) (1 : Int32) d8_32 rfl rfl rfl rfl ?_
  refine Rn.iinc K (q := 38) (Ls' := #[.val (.ref c), .val (.int (2 : Int32)), .val (.ref b), .val (.int (2 : Int32)), .val (.int (2 : Int32)), .val (.int (1 : Int32)), .val (.int x1)]) (1 : Int32) d8_35 rfl rfl rfl rfl ?_
  refine Rn.iinc K (q := 41) (Ls' := #[.val (.ref c), .val (.int (2 : Int32)), .val (.ref b), .val (.int (2 : Int32)), .val (.int (2 : Int32)), .val (.int (2 : Int32)), .val (.int x1)]) (1 : Int32) d8_38 rfl rfl rfl rfl ?_
  refine Rn.goto K (q := 3) d8_41 (by decide) (by decide) ?_
  refine Rn.iload K (q := 5) d8_3 rfl rfl ?_
  refine Rn.iload K (q := 7) d8_5 rfl rfl ?_
  refine Rn.icY K (q := 44) d8_7 (XT.ii_ge_t (by decide)) (by decide) (by decide) ?_
  refine Rn.iload K (q := 46) d8_44 rfl rfl ?_
  exact Rn.retI K rfl d8_46 (by decide) (by decide) ⟨rfl, f13, A11⟩
theorem d7_0 : decode jdk_52_method_16_code 0 = .ok (.iload_n 2, 1) := by decide +kernel
theorem d7_1 : decode jdk_52_method_16_code 1 = .ok (.newarray .byte, 2) := by decide +kernel
theorem d7_3 : decode jdk_52_method_16_code 3 = .ok (.astore_n 3, 1) := by decide +kernel
theorem d7_4 : decode jdk_52_method_16_code 4 = .ok (.aload_n 0, 1) := by decide +kernel
theorem d7_5 : decode jdk_52_method_16_code 5 = .ok (.iload_n 1, 1) := by decide +kernel
theorem d7_6 : decode jdk_52_method_16_code 6 = .ok (.aload_n 3, 1) := by decide +kernel
theorem d7_7 : decode jdk_52_method_16_code 7 = .ok (.iconst 0, 1) := by decide +kernel
theorem d7_8 : decode jdk_52_method_16_code 8 = .ok (.iload_n 2, 1) := by decide +kernel
theorem d7_9 : decode jdk_52_method_16_code 9 = .ok (.invokestatic 115, 3) := by decide +kernel
theorem d7_12 : decode jdk_52_method_16_code 12 = .ok (.istore 4, 2) := by decide +kernel
theorem d7_14 : decode jdk_52_method_16_code 14 = .ok (.iload 4, 2) := by decide +kernel
theorem d7_16 : decode jdk_52_method_16_code 16 = .ok (.iload_n 2, 1) := by decide +kernel
theorem d7_17 : decode jdk_52_method_16_code 17 = .ok (.if_icmp .eq 40, 3) := by decide +kernel
theorem d7_57 : decode jdk_52_method_16_code 57 = .ok (.aload_n 3, 1) := by decide +kernel
theorem d7_58 : decode jdk_52_method_16_code 58 = .ok (.areturn, 1) := by decide +kernel
theorem pn_m_cp2 : plainName "java/lang/StringUTF16" = true := by first | (simp [plainName, overriddenIn]; done) | decide +kernel
set_option maxRecDepth 65536 in
set_option maxHeartbeats 40000000 in
theorem m_cp2 (l : Launch) (Z : State) (a0 : Array Value) (hw : ∀ d ∈ tables_1, d.before a0 Z = true) (n0 : Nat) (h0 : Heap) (c : Addr) (kc : ClassId) (x0 x1 : Int32) (X0 : Old Z n0 h0) (Ec : Exa Z h0 c "[C") (Ac : Arv Z h0 c kc .char (2 : Int32) [(.int x0), (.int x1)] (.int (0 : Int32))) (hx0 : ¬ (255 : Int32) < x0) (hx1 : ¬ (255 : Int32) < x1) :
    Met l Z (⟨"java/lang/StringUTF16", "compress", "([CII)[B"⟩ : MethodName) jdk_52_method_16_code 6 (some (.array .byte)) ({ frames := 1, cells := 1, slots := 2, locals := 18 } : Room) n0 [] #[(.ref c), (.int (0 : Int32)), (.int (2 : Int32))] h0 (fun v h => ∃ b k, v = some (.ref b) ∧ Keep h0 h [] ∧ Exa Z h b "[B" ∧ Arv Z h b k .byte (2 : Int32) [(.int (nar .byte x0.toInt8.toInt32)), (.int (nar .byte x1.toInt8.toInt32))] (.int (0 : Int32))) := by
  refine Met.intro (Ls := #[.val (.ref c), .val (.int (0 : Int32)), .val (.int (2 : Int32)), .unset, .unset, .unset]) (plainFor_of_name pn_m_cp2) hw (fun m => by first | rfl | (simp [entryFrame, mkF, argsToLocals, Value.category]; done)) ?_
  intro w K0
  have K : Cx w Z a0 "java/lang/StringUTF16" jdk_52_method_16_code 6 (some (.array .byte)) "compress" := K0
  have K1 := Keep.refl h0 []
  refine Rn.iloadN K (q := 1) d7_0 rfl rfl ?_
  refine Rn.newP K (q := 3) (cap := 2) (List.mem_of_getElem? (i := 19) rfl) (by decide) (by decide) (by decide) (by decide) (by decide) (ad := "[B") (by decide) d7_1 rfl ?_
  intro b1 h2 k4 gb1_ X3 A_b1 EA_b1
  have ne_c_b1 : c ≠ b1 := fun e => absurd Ec.lt (by rw [e, gb1_]; exact Nat.lt_irrefl _)
  have ne_c_b1 : c ≠ b1 := fun e => absurd Ec.lt (by rw [e, gb1_]; exact Nat.lt_irrefl _)
  have g_b1 : n0 ≤ b1 := by rw [gb1_]; exact X0.1 ▸ X0.2.1
  have sz_b1 : h0.size ≤ b1 := by rw [gb1_]; exact K1.1
  have f5 := X0.ext X3
  have f6 := K1.ext X3
  have f7 := Ec.ext X3
  have f8 := Ac.ext X3
  replace A_b1 : Arv Z h2 b1 k4 .byte (2 : Int32) [(.int (0 : Int32)), (.int (0 : Int32))] (.int (0 : Int32)) := A_b1.pad (pad_rep [] (.int (0 : Int32)) 2)
  show Rn w l _ n0 _ 3 #[.val (.ref c), .val (.int (0 : Int32)), .val (.int (2 : Int32)), .unset, .unset, .unset] [(.ref b1)] h2 1 2
  refine Rn.astoreN K (q := 4) (Ls' := #[.val (.ref c), .val (.int (0 : Int32)), .val (.int (2 : Int32)), .val (.ref b1), .unset, .unset]) d7_3 rfl rfl rfl ?_
  refine Rn.aloadN K (q := 5) d7_4 rfl rfl rfl ?_
  refine Rn.iloadN K (q := 6) d7_5 rfl rfl ?_
  refine Rn.aloadN K (q := 7) d7_6 rfl rfl rfl ?_
  refine Rn.iconst K (q := 8) (0 : Int32) d7_7 rfl rfl ?_
  refine Rn.iloadN K (q := 9) d7_8 rfl rfl ?_
  refine Rn.stat K (q := 12) (W := 0) (y := (⟨"java/lang/StringUTF16", "compress", "([CI[BII)I"⟩ : MethodName)) (argsL := [(.ref c), (.int (0 : Int32)), (.ref b1), (.int (0 : Int32)), (.int (2 : Int32))]) (rest := []) (List.mem_of_getElem? (i := 40) rfl) (List.mem_of_getElem? (i := 41) rfl) (List.mem_of_getElem? (i := 42) rfl) (List.mem_of_getElem? (i := 38) rfl) (by decide) (m_cpr2 l Z a0 hw n0 h2 c b1 kc k4 x0 x1 f5 f7 f8 EA_b1 A_b1 g_b1 hx0 hx1) (by decide) (by decide) rfl (lenOf pd_8 rfl) rfl (Nat.le_of_ble_eq_true rfl) d7_9 rfl (by decide) (by decide) ?_
  rintro _ h9 ⟨rfl, K10, A11⟩
  have f12 := f5.keep K10 (allS g_b1 all0)
  have f13 := f6.trans K10 (allS (Or.inr sz_b1) all0)
  have f14 := f7.keep K10
  have f15 := f8.keep K10 (ninS ne_c_b1 nin0)
  have f16 := EA_b1.keep K10
  show Rn w l _ n0 _ 12 #[.val (.ref c), .val (.int (0 : Int32)), .val (.int (2 : Int32)), .val (.ref b1), .unset, .unset] [(.int (2 : Int32))] h9 1 2
  refine Rn.istore K (q := 14) (Ls' := #[.val (.ref c), .val (.int (0 : Int32)), .val (.int (2 : Int32)), .val (.ref b1), .val (.int (2 : Int32)), .unset]) d7_12 rfl rfl ?_
  refine Rn.iload K (q := 16) d7_14 rfl rfl ?_
  refine Rn.iloadN K (q := 17) d7_16 rfl rfl ?_
  refine Rn.icY K (q := 57) d7_17 (XT.ii_eq_t rfl) (by decide) (by decide) ?_
  refine Rn.aloadN K (q := 58) d7_57 rfl rfl rfl ?_
  exact Rn.retA K (.array .byte) rfl rfl rfl d7_58 (by decide) (by decide) ⟨_, _, rfl, f13, f16, A11⟩
theorem d9_0 : decode jdk_52_method_15_code 0 = .ok (.iload_n 1, 1) := by decide +kernel
theorem d9_1 : decode jdk_52_method_15_code 1 = .ok (.aload_n 0, 1) := by decide +kernel
theorem d9_2 : decode jdk_52_method_15_code 2 = .ok (.arraylength, 1) := by decide +kernel
theorem d9_3 : decode jdk_52_method_15_code 3 = .ok (.isub, 1) := by decide +kernel
theorem d9_4 : decode jdk_52_method_15_code 4 = .ok (.bipush 31, 2) := by decide +kernel
theorem d9_6 : decode jdk_52_method_15_code 6 = .ok (.iushr, 1) := by decide +kernel
theorem d9_7 : decode jdk_52_method_15_code 7 = .ok (.i2b, 1) := by decide +kernel
theorem d9_8 : decode jdk_52_method_15_code 8 = .ok (.ireturn, 1) := by decide +kernel
theorem pn_m_cfl2 : plainName "java/lang/StringUTF16" = true := by first | (simp [plainName, overriddenIn]; done) | decide +kernel
set_option maxRecDepth 65536 in
set_option maxHeartbeats 40000000 in
theorem m_cfl2 (l : Launch) (Z : State) (a0 : Array Value) (hw : ∀ d ∈ tables_1, d.before a0 Z = true) (n0 : Nat) (h0 : Heap) (b : Addr) (k : ClassId) (x0 x1 : Int32) (X0 : Old Z n0 h0) (Ab : Arv Z h0 b k .byte (2 : Int32) [(.int (nar .byte x0.toInt8.toInt32)), (.int (nar .byte x1.toInt8.toInt32))] (.int (0 : Int32))) :
    Met l Z (⟨"java/lang/StringUTF16", "coderFromArrayLen", "([BI)B"⟩ : MethodName) jdk_52_method_15_code 2 (some .byte) ({ frames := 0, cells := 0, slots := 0, locals := 0 } : Room) n0 [] #[(.ref b), (.int (2 : Int32))] h0 (fun v h => v = some (.int (0 : Int32)) ∧ h0 = h) := by
  refine Met.intro (Ls := #[.val (.ref b), .val (.int (2 : Int32))]) (plainFor_of_name pn_m_cfl2) hw (fun m => by first | rfl | (simp [entryFrame, mkF, argsToLocals, Value.category]; done)) ?_
  intro w K0
  have K : Cx w Z a0 "java/lang/StringUTF16" jdk_52_method_15_code 2 (some .byte) "coderFromArrayLen" := K0
  refine Rn.iloadN K (q := 1) d9_0 rfl rfl ?_
  refine Rn.aloadN K (q := 2) d9_1 rfl rfl rfl ?_
  refine Rn.arraylength K (q := 3) Ab d9_2 rfl ?_
  refine Rn.isub K (q := 4) d9_3 rfl ?_
  show Rn w l _ n0 _ 4 #[.val (.ref b), .val (.int (2 : Int32))] [(.int (0 : Int32))] h0 0 0
  refine Rn.bipush K (q := 6) (31 : Int32) d9_4 rfl rfl ?_
  refine Rn.iushr K (q := 7) d9_6 rfl ?_
  refine Rn.i2b K (q := 8) d9_7 rfl ?_
  exact Rn.retN K .byte rfl (by simp) d9_8 (by decide) (by decide) ⟨by rw [show nar .byte (((0 : Int32).toUInt32 >>> ((31 : Int32) &&& 31).toUInt32).toInt32).toInt8.toInt32 = 0 from by decide], rfl⟩
theorem d3_0 : decode jdk_42_method_149_code 0 = .ok (.aload_n 0, 1) := by decide +kernel
theorem d3_1 : decode jdk_42_method_149_code 1 = .ok (.invokespecial 1, 3) := by decide +kernel
theorem d3_4 : decode jdk_42_method_149_code 4 = .ok (.iload_n 3, 1) := by decide +kernel
theorem d3_5 : decode jdk_42_method_149_code 5 = .ok (.ifCond .ne 22, 3) := by decide +kernel
theorem d3_27 : decode jdk_42_method_149_code 27 = .ok (.getstatic 38, 3) := by decide +kernel
theorem d3_30 : decode jdk_42_method_149_code 30 = .ok (.ifCond .eq 28, 3) := by decide +kernel
theorem d3_33 : decode jdk_42_method_149_code 33 = .ok (.aload_n 1, 1) := by decide +kernel
theorem d3_34 : decode jdk_42_method_149_code 34 = .ok (.iload_n 2, 1) := by decide +kernel
theorem d3_35 : decode jdk_42_method_149_code 35 = .ok (.iload_n 3, 1) := by decide +kernel
theorem d3_36 : decode jdk_42_method_149_code 36 = .ok (.invokestatic 177, 3) := by decide +kernel
theorem d3_39 : decode jdk_42_method_149_code 39 = .ok (.astore 5, 2) := by decide +kernel
theorem d3_41 : decode jdk_42_method_149_code 41 = .ok (.aload_n 0, 1) := by decide +kernel
theorem d3_42 : decode jdk_42_method_149_code 42 = .ok (.aload 5, 2) := by decide +kernel
theorem d3_44 : decode jdk_42_method_149_code 44 = .ok (.iload_n 3, 1) := by decide +kernel
theorem d3_45 : decode jdk_42_method_149_code 45 = .ok (.invokestatic 47, 3) := by decide +kernel
theorem d3_48 : decode jdk_42_method_149_code 48 = .ok (.putfield 15, 3) := by decide +kernel
theorem d3_51 : decode jdk_42_method_149_code 51 = .ok (.aload_n 0, 1) := by decide +kernel
theorem d3_52 : decode jdk_42_method_149_code 52 = .ok (.aload 5, 2) := by decide +kernel
theorem d3_54 : decode jdk_42_method_149_code 54 = .ok (.putfield 9, 3) := by decide +kernel
theorem d3_57 : decode jdk_42_method_149_code 57 = .ok (.return_, 1) := by decide +kernel
theorem pn_m_iv2 : plainName "java/lang/String" = true := by first | (simp [plainName, overriddenIn]; done) | decide +kernel
set_option maxRecDepth 65536 in
set_option maxHeartbeats 40000000 in
theorem m_iv2 (l : Launch) (Z : State) (a0 : Array Value) (hw : ∀ d ∈ tables_1, d.before a0 Z = true) (n0 : Nat) (h0 : Heap) (s c : Addr) (kc : ClassId) (x0 x1 : Int32) (cst : Int32) (X0 : Old Z n0 h0) (SC : Sta Z Z.heap "java/lang/String" "COMPACT_STRINGS" "Z" (.int cst)) (hcs : ¬ cst = 0) (Es : Exa Z h0 s "java/lang/String") (gs : n0 ≤ s) (Fv : Fld Z h0 s "java/lang/String" "value" "[B" .null) (Fc : Fld Z h0 s "java/lang/String" "coder" "B" (.int (0 : Int32))) (Ec : Exa Z h0 c "[C") (Ac : Arv Z h0 c kc .char (2 : Int32) [(.int x0), (.int x1)] (.int (0 : Int32))) (hx0 : ¬ (255 : Int32) < x0) (hx1 : ¬ (255 : Int32) < x1) :
    Met l Z (⟨"java/lang/String", "<init>", "([CIILjava/lang/Void;)V"⟩ : MethodName) jdk_42_method_149_code 6 none ({ frames := 2, cells := 1, slots := 2, locals := 36 } : Room) n0 [] #[(.ref s), (.ref c), (.int (0 : Int32)), (.int (2 : Int32)), .null] h0 (fun r h => r = none ∧ Keep h0 h [s] ∧ ∃ v k, Fld Z h s "java/lang/String" "value" "[B" (.ref v) ∧ Fld Z h s "java/lang/String" "coder" "B" (.int (0 : Int32)) ∧ Exa Z h v "[B" ∧ Arv Z h v k .byte (2 : Int32) [(.int (nar .byte x0.toInt8.toInt32)), (.int (nar .byte x1.toInt8.toInt32))] (.int (0 : Int32))) := by
  refine Met.intro (Ls := #[.val (.ref s), .val (.ref c), .val (.int (0 : Int32)), .val (.int (2 : Int32)), .val .null, .unset]) (plainFor_of_name pn_m_iv2) hw (fun m => by first | rfl | (simp [entryFrame, mkF, argsToLocals, Value.category]; done)) ?_
  intro w K0
  have K : Cx w Z a0 "java/lang/String" jdk_42_method_149_code 6 none "<init>" := K0
  have K1 := Keep.refl h0 [s]
  refine Rn.aloadN K (q := 1) d3_0 rfl rfl rfl ?_
  refine Rn.initO K (q := 4) (W := 0) (List.mem_of_getElem? (i := 15) rfl) (List.mem_of_getElem? (i := 16) rfl) (List.mem_of_getElem? (i := 17) rfl) (by decide) (by decide) rfl (Nat.le_of_ble_eq_true rfl) d3_1 rfl ?_
  refine Rn.iloadN K (q := 5) d3_4 rfl rfl ?_
  refine Rn.ifY K (q := 27) d3_5 (XT.i0_ne_t (by decide)) (by decide) (by decide) ?_
  refine Rn.getS K (q := 30) (List.mem_of_getElem? (i := 35) rfl) (SC.ext X0.2) d3_27 rfl ?_
  refine Rn.ifN K (q := 33) d3_30 (XT.i0_eq_f hcs) rfl ?_
  refine Rn.aloadN K (q := 34) d3_33 rfl rfl rfl ?_
  refine Rn.iloadN K (q := 35) d3_34 rfl rfl ?_
  refine Rn.iloadN K (q := 36) d3_35 rfl rfl ?_
  refine Rn.stat K (q := 39) (W := 0) (y := (⟨"java/lang/StringUTF16", "compress", "([CII)[B"⟩ : MethodName)) (argsL := [(.ref c), (.int (0 : Int32)), (.int (2 : Int32))]) (rest := []) (List.mem_of_getElem? (i := 36) rfl) (List.mem_of_getElem? (i := 37) rfl) (List.mem_of_getElem? (i := 39) rfl) (List.mem_of_getElem? (i := 38) rfl) (by decide) (m_cp2 l Z a0 hw n0 h0 c kc x0 x1 X0 Ec Ac hx0 hx1) (by decide) (by decide) rfl (lenOf pd_9 rfl) rfl (Nat.le_of_ble_eq_true rfl) d3_36 rfl (by decide) (by decide) ?_
  rintro _ h1 ⟨v, k, rfl, K2, E3, A4⟩
  have f5 := X0.keep K2 all0
  have f6 := K1.trans K2 all0
  have f7 := Es.keep K2
  have f8 := Fv.keep K2 nin0
  have f9 := Fc.keep K2 nin0
  have f10 := Ec.keep K2
  have f11 := Ac.keep K2 nin0
  show Rn w l _ n0 _ 39 #[.val (.ref s), .val (.ref c), .val (.int (0 : Int32)), .val (.int (2 : Int32)), .val .null, .unset] [(.ref v)] h1 1 2
  refine Rn.astore K (q := 41) (Ls' := #[.val (.ref s), .val (.ref c), .val (.int (0 : Int32)), .val (.int (2 : Int32)), .val .null, .val (.ref v)]) d3_39 rfl rfl rfl ?_
  refine Rn.aloadN K (q := 42) d3_41 rfl rfl rfl ?_
  refine Rn.aload K (q := 44) d3_42 rfl rfl rfl ?_
  refine Rn.iloadN K (q := 45) d3_44 rfl rfl ?_
  refine Rn.stat K (q := 48) (W := 1) (y := (⟨"java/lang/StringUTF16", "coderFromArrayLen", "([BI)B"⟩ : MethodName)) (argsL := [(.ref v), (.int (2 : Int32))]) (rest := [(.ref s)]) (List.mem_of_getElem? (i := 43) rfl) (List.mem_of_getElem? (i := 44) rfl) (List.mem_of_getElem? (i := 45) rfl) (List.mem_of_getElem? (i := 38) rfl) (by decide) (m_cfl2 l Z a0 hw n0 h1 v k x0 x1 f5 A4) (by decide) (by decide) rfl (lenOf pd_10 rfl) rfl (Nat.le_of_ble_eq_true rfl) d3_45 rfl (by decide) (by decide) ?_
  rintro _ _ ⟨rfl, rfl⟩
  show Rn w l _ n0 _ 48 #[.val (.ref s), .val (.ref c), .val (.int (0 : Int32)), .val (.int (2 : Int32)), .val .null, .val (.ref v)] [(.int (0 : Int32)), (.ref s)] h1 1 2
  refine Rn.putF K (q := 51) (ty := .byte) (v' := .int (nar .byte (0 : Int32))) (List.mem_of_getElem? (i := 25) rfl) Via.refl f9 f7 (Or.inr ⟨(List.mem_of_getElem? (i := 21) rfl), rfl, rfl⟩) (List.mem_of_getElem? (i := 5) rfl) (by decide) rfl (fits_nar_byte _) gs d3_48 rfl ?_
  intro h12 W13
  have f14 := f5.wr W13 gs
  have f15 := f6.wr W13 (Or.inl (List.mem_of_getElem? (i := 0) rfl))
  have f16 := f7.wr W13
  have f17 := Fld.other W13 f8 (Or.inr (slot_ne (Or.inr (K.hw _ (List.mem_of_getElem? (i := 20) rfl))) (Or.inr (K.hw _ (List.mem_of_getElem? (i := 21) rfl))) (by decide) (t := (.array .byte)) (t' := .byte) (by decide) (by decide)))
  have f18 := Fld.same W13 f9
  have f19 := f10.wr W13
  have f20 := f11.other W13 (ne_exa f10 f7 (by decide))
  have f21 := E3.wr W13
  have f22 := A4.other W13 (ne_exa E3 f7 (by decide))
  refine Rn.aloadN K (q := 52) d3_51 rfl rfl rfl ?_
  refine Rn.aload K (q := 54) d3_52 rfl rfl rfl ?_
  refine Rn.putF K (q := 57) (ty := (.array .byte)) (List.mem_of_getElem? (i := 24) rfl) Via.refl f17 f16 (Or.inr ⟨(List.mem_of_getElem? (i := 20) rfl), rfl, rfl⟩) (List.mem_of_getElem? (i := 5) rfl) (by decide) rfl rfl gs d3_54 rfl ?_
  intro h23 W24
  have f25 := f14.wr W24 gs
  have f26 := f15.wr W24 (Or.inl (List.mem_of_getElem? (i := 0) rfl))
  have f27 := f16.wr W24
  have f28 := Fld.same W24 f17
  have f29 := Fld.other W24 f18 (Or.inr (slot_ne (Or.inr (K.hw _ (List.mem_of_getElem? (i := 21) rfl))) (Or.inr (K.hw _ (List.mem_of_getElem? (i := 20) rfl))) (by decide) (t := .byte) (t' := (.array .byte)) (by decide) (by decide)))
  have f30 := f19.wr W24
  have f31 := f20.other W24 (ne_exa f19 f16 (by decide))
  have f32 := f21.wr W24
  have f33 := f22.other W24 (ne_exa f21 f16 (by decide))
  exact Rn.retV K rfl d3_57 (by decide) (by decide) ⟨rfl, f26, _, _, f28, f29, f32, f33⟩
theorem d2_0 : decode jdk_42_method_3_code 0 = .ok (.aload_n 0, 1) := by decide +kernel
theorem d2_1 : decode jdk_42_method_3_code 1 = .ok (.aload_n 1, 1) := by decide +kernel
theorem d2_2 : decode jdk_42_method_3_code 2 = .ok (.iconst 0, 1) := by decide +kernel
theorem d2_3 : decode jdk_42_method_3_code 3 = .ok (.aload_n 1, 1) := by decide +kernel
theorem d2_4 : decode jdk_42_method_3_code 4 = .ok (.arraylength, 1) := by decide +kernel
theorem d2_5 : decode jdk_42_method_3_code 5 = .ok (.aconst_null, 1) := by decide +kernel
theorem d2_6 : decode jdk_42_method_3_code 6 = .ok (.invokespecial 27, 3) := by decide +kernel
theorem d2_9 : decode jdk_42_method_3_code 9 = .ok (.return_, 1) := by decide +kernel
theorem pn_m_ic2 : plainName "java/lang/String" = true := by first | (simp [plainName, overriddenIn]; done) | decide +kernel
set_option maxRecDepth 65536 in
set_option maxHeartbeats 40000000 in
theorem m_ic2 (l : Launch) (Z : State) (a0 : Array Value) (hw : ∀ d ∈ tables_1, d.before a0 Z = true) (n0 : Nat) (h0 : Heap) (s c : Addr) (kc : ClassId) (x0 x1 : Int32) (cst : Int32) (X0 : Old Z n0 h0) (SC : Sta Z Z.heap "java/lang/String" "COMPACT_STRINGS" "Z" (.int cst)) (hcs : ¬ cst = 0) (Es : Exa Z h0 s "java/lang/String") (gs : n0 ≤ s) (Fv : Fld Z h0 s "java/lang/String" "value" "[B" .null) (Fc : Fld Z h0 s "java/lang/String" "coder" "B" (.int (0 : Int32))) (Ec : Exa Z h0 c "[C") (Ac : Arv Z h0 c kc .char (2 : Int32) [(.int x0), (.int x1)] (.int (0 : Int32))) (hx0 : ¬ (255 : Int32) < x0) (hx1 : ¬ (255 : Int32) < x1) :
    Met l Z (⟨"java/lang/String", "<init>", "([C)V"⟩ : MethodName) jdk_42_method_3_code 2 none ({ frames := 3, cells := 1, slots := 2, locals := 54 } : Room) n0 [] #[(.ref s), (.ref c)] h0 (fun r h => r = none ∧ Keep h0 h [s] ∧ ∃ v k, Fld Z h s "java/lang/String" "value" "[B" (.ref v) ∧ Fld Z h s "java/lang/String" "coder" "B" (.int (0 : Int32)) ∧ Exa Z h v "[B" ∧ Arv Z h v k .byte (2 : Int32) [(.int (nar .byte x0.toInt8.toInt32)), (.int (nar .byte x1.toInt8.toInt32))] (.int (0 : Int32))) := by
  refine Met.intro (Ls := #[.val (.ref s), .val (.ref c)]) (plainFor_of_name pn_m_ic2) hw (fun m => by first | rfl | (simp [entryFrame, mkF, argsToLocals, Value.category]; done)) ?_
  intro w K0
  have K : Cx w Z a0 "java/lang/String" jdk_42_method_3_code 2 none "<init>" := K0
  refine Rn.aloadN K (q := 1) d2_0 rfl rfl rfl ?_
  refine Rn.aloadN K (q := 2) d2_1 rfl rfl rfl ?_
  refine Rn.iconst K (q := 3) (0 : Int32) d2_2 rfl rfl ?_
  refine Rn.aloadN K (q := 4) d2_3 rfl rfl rfl ?_
  refine Rn.arraylength K (q := 5) Ac d2_4 rfl ?_
  refine Rn.aconst_null K (q := 6) d2_5 rfl ?_
  refine Rn.spec K (q := 9) (W := 0) (y := (⟨"java/lang/String", "<init>", "([CIILjava/lang/Void;)V"⟩ : MethodName)) (b := s) (argsL := [(.ref c), (.int (0 : Int32)), (.int (2 : Int32)), .null]) (rest := []) rfl (List.mem_of_getElem? (i := 11) rfl) (List.mem_of_getElem? (i := 12) rfl) (List.mem_of_getElem? (i := 14) rfl) (List.mem_of_getElem? (i := 6) rfl) (by decide) (m_iv2 l Z a0 hw n0 h0 s c kc x0 x1 cst X0 SC hcs Es gs Fv Fc Ec Ac hx0 hx1) (by decide) (by decide) rfl (lenOf pd_11 rfl) rfl (Nat.le_of_ble_eq_true rfl) d2_6 rfl (by decide) (by decide) ?_
  rintro _ h1 ⟨rfl, K2, Q2⟩
  show Rn w l _ n0 _ 9 #[.val (.ref s), .val (.ref c)] [] h1 1 2
  exact Rn.retV K rfl d2_9 (by decide) (by decide) ⟨rfl, K2, Q2⟩
theorem d1_0 : decode method_2_code 0 = .ok (.iload_n 0, 1) := by decide +kernel
theorem d1_1 : decode method_2_code 1 = .ok (.ifCond .ne 14, 3) := by decide +kernel
theorem d1_15 : decode method_2_code 15 = .ok (.iload_n 0, 1) := by decide +kernel
theorem d1_16 : decode method_2_code 16 = .ok (.iconst 1, 1) := by decide +kernel
theorem d1_17 : decode method_2_code 17 = .ok (.if_icmp .ne 8, 3) := by decide +kernel
theorem d1_25 : decode method_2_code 25 = .ok (.iload_n 0, 1) := by decide +kernel
theorem d1_26 : decode method_2_code 26 = .ok (.iconst 2, 1) := by decide +kernel
theorem d1_27 : decode method_2_code 27 = .ok (.if_icmp .ne 22, 3) := by decide +kernel
theorem d1_30 : decode method_2_code 30 = .ok (.new 7, 3) := by decide +kernel
theorem d1_33 : decode method_2_code 33 = .ok (.dup, 1) := by decide +kernel
theorem d1_34 : decode method_2_code 34 = .ok (.iconst 2, 1) := by decide +kernel
theorem d1_35 : decode method_2_code 35 = .ok (.newarray .char, 2) := by decide +kernel
theorem d1_37 : decode method_2_code 37 = .ok (.dup, 1) := by decide +kernel
theorem d1_38 : decode method_2_code 38 = .ok (.iconst 0, 1) := by decide +kernel
theorem d1_39 : decode method_2_code 39 = .ok (.iload_n 1, 1) := by decide +kernel
theorem d1_40 : decode method_2_code 40 = .ok (.castore, 1) := by decide +kernel
theorem d1_41 : decode method_2_code 41 = .ok (.dup, 1) := by decide +kernel
theorem d1_42 : decode method_2_code 42 = .ok (.iconst 1, 1) := by decide +kernel
theorem d1_43 : decode method_2_code 43 = .ok (.iload_n 2, 1) := by decide +kernel
theorem d1_44 : decode method_2_code 44 = .ok (.castore, 1) := by decide +kernel
theorem d1_45 : decode method_2_code 45 = .ok (.invokespecial 9, 3) := by decide +kernel
theorem d1_48 : decode method_2_code 48 = .ok (.areturn, 1) := by decide +kernel
theorem pn_m_dr2 : plainName "com/example/ballast/ballast/ColumnOrNonePinLaw" = true := by first | (simp [plainName, overriddenIn]; done) | decide +kernel
set_option maxRecDepth 65536 in
set_option maxHeartbeats 40000000 in
theorem m_dr2 (l : Launch) (Z : State) (a0 : Array Value) (hw : ∀ d ∈ tables_1, d.before a0 Z = true) (n0 : Nat) (h0 : Heap) (x0 x1 x2 : Int32) (cst : Int32) (X0 : Old Z n0 h0) (SC : Sta Z Z.heap "java/lang/String" "COMPACT_STRINGS" "Z" (.int cst)) (hcs : ¬ cst = 0) (hx0 : ¬ (255 : Int32) < nar .char x0) (hx1 : ¬ (255 : Int32) < nar .char x1) :
    Met l Z (⟨"com/example/ballast/ballast/ColumnOrNonePinLaw", "draw", "(ICCC)Ljava/lang/String;"⟩ : MethodName) method_2_code 4 (some (.object "java/lang/String")) ({ frames := 4, cells := 3, slots := 8, locals := 70 } : Room) n0 [] #[(.int (2 : Int32)), (.int x0), (.int x1), (.int x2)] h0 (fun r h => ∃ s v k, r = some (.ref s) ∧ Keep h0 h [] ∧ Exa Z h s "java/lang/String" ∧ Fld Z h s "java/lang/String" "coder" "B" (.int (0 : Int32)) ∧ Fld Z h s "java/lang/String" "value" "[B" (.ref v) ∧ Arv Z h v k .byte (2 : Int32) [(.int (nar .byte (nar .char x0).toInt8.toInt32)), (.int (nar .byte (nar .char x1).toInt8.toInt32))] (.int (0 : Int32))) := by
  refine Met.intro (Ls := #[.val (.int (2 : Int32)), .val (.int x0), .val (.int x1), .val (.int x2)]) (plainFor_of_name pn_m_dr2) hw (fun m => by first | rfl | (simp [entryFrame, mkF, argsToLocals, Value.category]; done)) ?_
  intro w K0
  have K : Cx w Z a0 "com/example/ballast/ballast/ColumnOrNonePinLaw" method_2_code 4 (some (.object "java/lang/String")) "draw" := K0
  have K1 := Keep.refl h0 []
  refine Rn.iloadN K (q := 1) d1_0 rfl rfl ?_
  refine Rn.ifY K (q := 15) d1_1 (XT.i0_ne_t (by decide)) (by decide) (by decide) ?_
  refine Rn.iloadN K (q := 16) d1_15 rfl rfl ?_
  refine Rn.iconst K (q := 17) (1 : Int32) d1_16 rfl rfl ?_
  refine Rn.icY K (q := 25) d1_17 (XT.ii_ne_t (by decide)) (by decide) (by decide) ?_
  refine Rn.iloadN K (q := 26) d1_25 rfl rfl ?_
  refine Rn.iconst K (q := 27) (2 : Int32) d1_26 rfl rfl ?_
  refine Rn.icN K (q := 30) d1_27 (XT.ii_ne_f rfl) rfl ?_
  refine Rn.newO K (q := 33) (List.mem_of_getElem? (i := 4) rfl) (List.mem_of_getElem? (i := 5) rfl) (List.mem_of_getElem? (i := 6) rfl) (by decide) (by decide) d1_30 rfl ?_
  intro b1 h2 gb1_ X3 A_b1 D4
  have g_b1 : n0 ≤ b1 := by rw [gb1_]; exact X0.1 ▸ X0.2.1
  have sz_b1 : h0.size ≤ b1 := by rw [gb1_]; exact K1.1
  have f5 := X0.ext X3
  have f6 := K1.ext X3
  have f7 : Fld Z h2 b1 "java/lang/String" "value" "[B" .null := D4 (Or.inr (K.hw _ (List.mem_of_getElem? (i := 20) rfl))) (ty := (.array .byte)) (by decide)
  have f8 : Fld Z h2 b1 "java/lang/String" "coder" "B" (.int (0 : Int32)) := D4 (Or.inr (K.hw _ (List.mem_of_getElem? (i := 21) rfl))) (ty := .byte) (by decide)
  show Rn w l _ n0 _ 33 #[.val (.int (2 : Int32)), .val (.int x0), .val (.int x1), .val (.int x2)] [(.ref b1)] h2 1 4
  refine Rn.dup K (q := 34) d1_33 rfl rfl ?_
  refine Rn.iconst K (q := 35) (2 : Int32) d1_34 rfl rfl ?_
  refine Rn.newP K (q := 37) (cap := 2) (List.mem_of_getElem? (i := 7) rfl) (by decide) (by decide) (by decide) (by decide) (by decide) (ad := "[C") (by decide) d1_35 rfl ?_
  intro b9 h10 k12 gb9_ X11 A_b9 EA_b9
  have ne_b1_b9 : b1 ≠ b9 := fun e => absurd A_b1.lt (by rw [e, gb9_]; exact Nat.lt_irrefl _)
  have g_b9 : n0 ≤ b9 := by rw [gb9_]; exact f5.1 ▸ f5.2.1
  have sz_b9 : h0.size ≤ b9 := by rw [gb9_]; exact f6.1
  have f13 := f5.ext X11
  have f14 := f6.ext X11
  have f15 := A_b1.ext X11
  have f16 := f7.ext X11
  have f17 := f8.ext X11
  replace A_b9 : Arv Z h10 b9 k12 .char (2 : Int32) [(.int (0 : Int32)), (.int (0 : Int32))] (.int (0 : Int32)) := A_b9.pad (pad_rep [] (.int (0 : Int32)) 2)
  show Rn w l _ n0 _ 37 #[.val (.int (2 : Int32)), .val (.int x0), .val (.int x1), .val (.int x2)] [(.ref b9), (.ref b1), (.ref b1)] h10 2 6
  refine Rn.dup K (q := 38) d1_37 rfl rfl ?_
  refine Rn.iconst K (q := 39) (0 : Int32) d1_38 rfl rfl ?_
  refine Rn.iloadN K (q := 40) d1_39 rfl rfl ?_
  refine Rn.castore K (q := 41) (i := 0) A_b9 (by decide) rfl (Nat.le_of_ble_eq_true rfl) g_b9 d1_40 rfl ?_
  intro h18 W19 A20
  have f21 := f13.wr W19 g_b9
  have f22 := f14.wr W19 (Or.inr sz_b9)
  have f23 := f15.wr W19
  have f24 := Fld.other W19 f16 (Or.inl ne_b1_b9)
  have f25 := Fld.other W19 f17 (Or.inl ne_b1_b9)
  have f26 := EA_b9.wr W19
  replace A20 : Arv Z h18 b9 k12 .char (2 : Int32) [(.int (nar .char x0)), (.int (0 : Int32))] (.int (0 : Int32)) := A20
  refine Rn.dup K (q := 42) d1_41 rfl rfl ?_
  refine Rn.iconst K (q := 43) (1 : Int32) d1_42 rfl rfl ?_
  refine Rn.iloadN K (q := 44) d1_43 rfl rfl ?_
  refine Rn.castore K (q := 45) (i := 1) A20 (by decide) rfl (Nat.le_of_ble_eq_true rfl) g_b9 d1_44 rfl ?_
  intro h27 W28 A29
  have f30 := f21.wr W28 g_b9
  have f31 := f22.wr W28 (Or.inr sz_b9)
  have f32 := f23.wr W28
  have f33 := Fld.other W28 f24 (Or.inl ne_b1_b9)
  have f34 := Fld.other W28 f25 (Or.inl ne_b1_b9)
  have f35 := f26.wr W28
  replace A29 : Arv Z h27 b9 k12 .char (2 : Int32) [(.int (nar .char x0)), (.int (nar .char x1))] (.int (0 : Int32)) := A29
  refine Rn.spec K (q := 48) (W := 1) (y := (⟨"java/lang/String", "<init>", "([C)V"⟩ : MethodName)) (b := b1) (argsL := [(.ref b9)]) (rest := [(.ref b1)]) rfl (List.mem_of_getElem? (i := 8) rfl) (List.mem_of_getElem? (i := 9) rfl) (List.mem_of_getElem? (i := 10) rfl) (List.mem_of_getElem? (i := 6) rfl) (by decide) (m_ic2 l Z a0 hw n0 h27 b1 b9 k12 (nar .char x0) (nar .char x1) cst f30 SC hcs f32 g_b1 f33 f34 f35 A29 hx0 hx1) (by decide) (by decide) rfl (lenOf pd_12 rfl) rfl (Nat.le_of_ble_eq_true rfl) d1_45 rfl (by decide) (by decide) ?_
  rintro _ h36 ⟨rfl, K37, v, k, F38, F39, -, A40⟩
  have f41 := f30.keep K37 (allS g_b1 all0)
  have f42 := f31.trans K37 (allS (Or.inr sz_b1) all0)
  have f43 := f32.keep K37
  have f44 := A29.keep K37 (ninS (Ne.symm ne_b1_b9) nin0)
  have f45 := f35.keep K37
  show Rn w l _ n0 _ 48 #[.val (.int (2 : Int32)), .val (.int x0), .val (.int x1), .val (.int x2)] [(.ref b1)] h36 3 8
  exact Rn.retA K (.object "java/lang/String") rfl rfl rfl d1_48 (by decide) (by decide) ⟨_, _, _, rfl, f42, f43, F39, F38, A40⟩
theorem pn_m_cpr3 : plainName "java/lang/StringUTF16" = true := by first | (simp [plainName, overriddenIn]; done) | decide +kernel
set_option maxRecDepth 65536 in
set_option maxHeartbeats 40000000 in
theorem m_cpr3 (l : Launch) (Z : State) (a0 : Array Value) (hw : ∀ d ∈ tables_1, d.before a0 Z = true) (n0 : Nat) (h0 : Heap) (c b : Addr) (kc k : ClassId) (x0 x1 x2 : Int32) (X0 : Old Z n0 h0) (Ec : Exa Z h0 c "[C") (Ac : Arv Z h0 c kc .char (3 : Int32) [(.int x0), (.int x1), (.int x2)] (.int (0 : Int32))) (Eb : Exa Z h0 b "[B") (Ab : Arv Z h0 b k .byte (3 : Int32) [(.int (0 : Int32)), (.int (0 : Int32)), (.int (0 : Int32))] (.int (0 : Int32))) (gb : n0 ≤ b) (hx0 : ¬ (255 : Int32) < x0) (hx1 : ¬ (255 : Int32) < x1) (hx2 : ¬ (255 : Int32) < x2) :
    Met l Z (⟨"java/lang/StringUTF16", "compress", "([CI[BII)I"⟩ : MethodName) jdk_52_method_21_code 7 (some .int) ({ frames := 0, cells := 0, slots := 0, locals := 0 } : Room) n0 [] #[(.ref c), (.int (0 : Int32)), (.ref b), (.int (0 : Int32)), (.int (3 : Int32))] h0 (fun v h => v = some (.int (3 : Int32)) ∧ Keep h0 h [b] ∧ Arv Z h b k .byte (3 : Int32) [(.int (nar .byte x0.toInt8.toInt32)), (.int (nar .byte x1.toInt8.toInt32)), (.int (nar .byte x2.toInt8.toInt32))] (.int (0 : Int32))) := by
  refine Met.intro (Ls := #[.val (.ref c), .val (.int (0 : Int32)), .val (.ref b), .val (.int (0 : Int32)), .val (.int (3 : Int32)), .unset, .unset]) (plainFor_of_name pn_m_cpr3) hw (fun m => by first | rfl | (simp [entryFrame, mkF, argsToLocals, Value.category]; done)) ?_
  intro w K0
  have K : Cx w Z a0 "java/lang/StringUTF16" jdk_52_method_21_code 7 (some .int) "compress" := K0
  have K1 := Keep.refl h0 [b]
  refine Rn.iconst K (q := 1) (0 : Int32) d8_0 rfl rfl ?_
  refine Rn.istore K (q := 3) (Ls' := #[.val (.ref c), .val (.int (0 : Int32)), .val (.ref b), .val (.int (0 : Int32)), .val (.int (3 : Int32)), .val (.int (0 : Int32)), .unset]) d8_1 rfl rfl ?_
  refine Rn.iload K (q := 5) d8_3 rfl rfl ?_
  refine Rn.iload K (q := 7) d8_5 rfl rfl ?_
  refine Rn.icN K (q := 10) d8_7 (XT.ii_ge_f (by decide)) rfl ?_
  refine Rn.aloadN K (q := 11) d8_10 rfl rfl rfl ?_
  refine Rn.iloadN K (q := 12) d8_11 rfl rfl ?_
  refine Rn.caload K (q := 13) (v := (.int x0)) Ac (by decide) rfl d8_12 rfl ?_
  refine Rn.istore K (q := 15) (Ls' := #[.val (.ref c), .val (.int (0 : Int32)), .val (.ref b), .val (.int (0 : Int32)), .val (.int (3 : Int32)), .val (.int (0 : Int32)), .val (.int x0)]) d8_13 rfl rfl ?_
  refine Rn.iload K (q := 17) d8_15 rfl rfl ?_
  refine Rn.sipush K (q := 20) (255 : Int32) d8_17 rfl rfl ?_
  refine Rn.icY K (q := 26) d8_20 (XT.ii_le_t hx0) (by decide) (by decide) ?_
  refine Rn.aloadN K (q := 27) d8_26 rfl rfl rfl ?_
  refine Rn.iloadN K (q := 28) d8_27 rfl rfl ?_
  refine Rn.iload K (q := 30) d8_28 rfl rfl ?_
  refine Rn.i2b K (q := 31) d8_30 rfl ?_
  refine Rn.bastoreB K (q := 32) (i := 0) Ab (by decide) rfl (Nat.le_of_ble_eq_true rfl) gb d8_31 rfl ?_
  intro h1 W2 A3
  have f4 := X0.wr W2 gb
  have f5 := K1.wr W2 (Or.inl (List.mem_of_getElem? (i := 0) rfl))
  have f6 := Eb.wr W2
  have f7 := Ec.wr W2
  have f8 := Ac.other W2 (ne_exa Ec Eb (by decide))
  replace A3 : Arv Z h1 b k .byte (3 : Int32) [(.int (nar .byte x0.toInt8.toInt32)), (.int (0 : Int32)), (.int (0 : Int32))] (.int (0 : Int32)) := A3
  refine Rn.iinc K (q := 35) (Ls' := #[.val (.ref c), .val (.int (1 : Int32)), .val (.ref b), .val (.int (0 : Int32)), .val (.int (3 : Int32)), .val (.int (0 : Int32)), .val (.int x0)]) (1 : Int32) d8_32 rfl rfl rfl rfl ?_
  refine Rn.iinc K (q := 38) (Ls' := #[.val (.ref c), .val (.int (1 : Int32)), .val (.ref b), .val (.int (1 : Int32)), .val (.int (3 : Int32)), .val (.int (0 : Int32)), .val (.int x0)]) (1 : Int32) d8_35 rfl rfl rfl rfl ?_
  refine Rn.iinc K (q := 41) (Ls' := #[.val (.ref c), .val (.int (1 : Int32)), .val (.ref b), .val (.int (1 : Int32)), .val (.int (3 : Int32)), .val (.int (1 : Int32)), .val (.int x0)]) (1 : Int32) d8_38 rfl rfl rfl rfl ?_
  refine Rn.goto K (q := 3) d8_41 (by decide) (by decide) ?_
  refine Rn.iload K (q := 5) d8_3 rfl rfl ?_
  refine Rn.iload K (q := 7) d8_5 rfl rfl ?_
  refine Rn.icN K (q := 10) d8_7 (XT.ii_ge_f (by decide)) rfl ?_
  refine Rn.aloadN K (q := 11) d8_10 rfl rfl rfl ?_
  refine Rn.iloadN K (q := 12) d8_11 rfl rfl ?_
  refine Rn.caload K (q := 13) (v := (.int x1)) f8 (by decide) rfl d8_12 rfl ?_
  refine Rn.istore K (q := 15) (Ls' := #[.val (.ref c), .val (.int (1 : Int32)), .val (.ref b), .val (.int (1 : Int32)), .val (.int (3 : Int32)), .val (.int (1 : Int32)), .val (.int x1)]) d8_13 rfl rfl ?_
  refine Rn.iload K (q := 17) d8_15 rfl rfl ?_
  refine Rn.sipush K (q := 20) (255 : Int32) d8_17 rfl rfl ?_
  refine Rn.icY K (q := 26) d8_20 (XT.ii_le_t hx1) (by decide) (by decide) ?_
  refine Rn.aloadN K (q := 27) d8_26 rfl rfl rfl ?_
  refine Rn.iloadN K (q := 28) d8_27 rfl rfl ?_
  refine Rn.iload K (q := 30) d8_28 rfl rfl ?_
  refine Rn.i2b K (q := 31) d8_30 rfl ?_
  refine Rn.bastoreB K (q := 32) (i := 1) A3 (by decide) rfl (Nat.le_of_ble_eq_true rfl) gb d8_31 rfl ?_
  intro h9 W10 A11
  have f12 := f4.wr W10 gb
  have f13 := f5.wr W10 (Or.inl (List.mem_of_getElem? (i := 0) rfl))
  have f14 := f6.wr W10
  have f15 := f7.wr W10
  have f16 := f8.other W10 (ne_exa f7 f6 (by decide))
  replace A11 : Arv Z h9 b k .byte (3 : Int32) [(.int (nar .byte x0.toInt8.toInt32)), (.int (nar .byte x1.toInt8.toInt32)), (.int (0 : Int32))] (.int (0 : Int32)) := A11
  refine Rn.iinc K (q := 35) (Ls' := #[.val (.ref c), .val (.int (2 : Int32)), .val (.ref b), .val (.int (1 : Int32)), .val (.int (3 : Int32)), .val (.int (1 : Int32)), .val (.int x1)]) (1 : Int32) d8_32 rfl rfl rfl rfl ?_
  refine Rn.iinc K (q := 38) (Ls' := #[.val (.ref c), .val (.int (2 : Int32)), .val (.ref b), .val (.int (2 : Int32)), .val (.int (3 : Int32)), .val (.int (1 : Int32)), .val (.int x1)]) (1 : Int32) d8_35 rfl rfl rfl rfl ?_
  refine Rn.iinc K (q := 41) (Ls' := #[.val (.ref c), .val (.int (2 : Int32)), .val (.ref b), .val (.int (2 : Int32)), .val (.int (3 : Int32)), .val (.int (2 : Int32)), .val (.int x1)]) (1 : Int32) d8_38 rfl rfl rfl rfl ?_
  refine Rn.goto K (q := 3) d8_41 (by decide) (by decide) ?_
  refine Rn.iload K (q := 5) d8_3 rfl rfl ?_
  refine Rn.iload K (q := 7) d8_5 rfl rfl ?_
  refine Rn.icN K (q := 10) d8_7 (XT.ii_ge_f (by decide)) rfl ?_
  refine Rn.aloadN K (q := 11) d8_10 rfl rfl rfl ?_
  refine Rn.iloadN K (q := 12) d8_11 rfl rfl ?_
  refine Rn.caload K (q := 13) (v := (.int x2)) f16 (by decide) rfl d8_12 rfl ?_
  refine Rn.istore K (q := 15) (Ls' := #[.val (.ref c), .val (.int (2 : Int32)), .val (.ref b), .val (.int (2 : Int32)), .val (.int (3 : Int32)), .val (.int (2 : Int32)), .val (.int x2)]) d8_13 rfl rfl ?_
  refine Rn.iload K (q := 17) d8_15 rfl rfl ?_
  refine Rn.sipush K (q := 20) (255 : Int32) d8_17 rfl rfl ?_
  refine Rn.icY K (q := 26) d8_20 (XT.ii_le_t hx2) (by decide) (by decide) ?_
  refine Rn.aloadN K (q := 27) d8_26 rfl rfl rfl ?_
  refine Rn.iloadN K (q := 28) d8_27 rfl rfl ?_
  refine Rn.iload K (q := 30) d8_28 rfl rfl ?_
  refine Rn.i2b K (q := 31) d8_30 rfl ?_
  refine Rn.bastoreB K (q := 32) (i := 2) A11 (by decide) rfl (Nat.le_of_ble_eq_true rfl) gb d8_31 rfl ?_
  intro h17 W18 A19
  have f20 := f12.wr W18 gb
  have f21 := f13.wr W18 (Or.inl (List.mem_of_getElem? (i := 0) rfl))
  have f22 := f14.wr W18
  have f23 := f15.wr W18
  have f24 := f16.other W18 (ne_exa f15 f14 (by decide))
  replace A19 : Arv Z h17 b k .byte (3 : Int32) [(.int (nar .byte x0.toInt8.toInt32)), (.int (nar .byte x1.toInt8.toInt32)), (.int (nar .byte x2.toInt8.toInt32))] (.int (0 : Int32)) := A19
  refine Rn.iinc K (q := 35) (Ls' := #[.val (.ref c), .val (.int (3 : Int32)), .val (.ref b), .val (.int (2 : Int32)), .val (.int (3 : Int32)), .val (.int (2 : Int32)), .val (.int x2)]) (1 : Int32) d8_32 rfl rfl rfl rfl ?_
  refine Rn.iinc K (q := 38) (Ls' := #[.val (.ref c), .val (.int (3 : Int32)), .val (.ref b), .val (.int (3 : Int32)), .val (.int (3 : Int32)), .val (.int (2 : Int32)), .val (.int x2)]) (1 : Int32) d8_35 rfl rfl rfl rfl ?_
  refine Rn.iinc K (q := 41) (Ls' := #[.val (.ref c), .val (.int (3 : Int32)), .val (.ref b), .val (.int (3 : Int32)), .val (.int (3 : Int32)), .val (.int (3 : Int32)), .val (.int x2)]) (1 : Int32) d8_38 rfl rfl rfl rfl ?_
  refine Rn.goto K (q := 3) d8_41 (by decide) (by decide) ?_
  refine Rn.iload K (q := 5) d8_3 rfl rfl ?_
  refine Rn.iload K (q := 7) d8_5 rfl rfl ?_
  refine Rn.icY K (q := 44) d8_7 (XT.ii_ge_t (by decide)) (by decide) (by decide) ?_
  refine Rn.iload K (q := 46) d8_44 rfl rfl ?_
  exact Rn.retI K rfl d8_46 (by decide) (by decide) ⟨rfl, f21, A19⟩
theorem pn_m_cp3 : plainName "java/lang/StringUTF16" = true := by first | (simp [plainName, overriddenIn]; done) | decide +kernel
set_option maxRecDepth 65536 in
set_option maxHeartbeats 40000000 in
theorem m_cp3 (l : Launch) (Z : State) (a0 : Array Value) (hw : ∀ d ∈ tables_1, d.before a0 Z = true) (n0 : Nat) (h0 : Heap) (c : Addr) (kc : ClassId) (x0 x1 x2 : Int32) (X0 : Old Z n0 h0) (Ec : Exa Z h0 c "[C") (Ac : Arv Z h0 c kc .char (3 : Int32) [(.int x0), (.int x1), (.int x2)] (.int (0 : Int32))) (hx0 : ¬ (255 : Int32) < x0) (hx1 : ¬ (255 : Int32) < x1) (hx2 : ¬ (255 : Int32) < x2) :
    Met l Z (⟨"java/lang/StringUTF16", "compress", "([CII)[B"⟩ : MethodName) jdk_52_method_16_code 6 (some (.array .byte)) ({ frames := 1, cells := 1, slots := 3, locals := 18 } : Room) n0 [] #[(.ref c), (.int (0 : Int32)), (.int (3 : Int32))] h0 (fun v h => ∃ b k, v = some (.ref b) ∧ Keep h0 h [] ∧ Exa Z h b "[B" ∧ Arv Z h b k .byte (3 : Int32) [(.int (nar .byte x0.toInt8.toInt32)), (.int (nar .byte x1.toInt8.toInt32)), (.int (nar .byte x2.toInt8.toInt32))] (.int (0 : Int32))) := by
  refine Met.intro (Ls := #[.val (.ref c), .val (.int (0 : Int32)), .val (.int (3 : Int32)), .unset, .unset, .unset]) (plainFor_of_name pn_m_cp3) hw (fun m => by first | rfl | (simp [entryFrame, mkF, argsToLocals, Value.category]; done)) ?_
  intro w K0
  have K : Cx w Z a0 "java/lang/StringUTF16" jdk_52_method_16_code 6 (some (.array .byte)) "compress" := K0
  have K1 := Keep.refl h0 []
  refine Rn.iloadN K (q := 1) d7_0 rfl rfl ?_
  refine Rn.newP K (q := 3) (cap := 3) (List.mem_of_getElem? (i := 19) rfl) (by decide) (by decide) (by decide) (by decide) (by decide) (ad := "[B") (by decide) d7_1 rfl ?_
  intro b1 h2 k4 gb1_ X3 A_b1 EA_b1
  have ne_c_b1 : c ≠ b1 := fun e => absurd Ec.lt (by rw [e, gb1_]; exact Nat.lt_irrefl _)
  have ne_c_b1 : c ≠ b1 := fun e => absurd Ec.lt (by rw [e, gb1_]; exact Nat.lt_irrefl _)
  have g_b1 : n0 ≤ b1 := by rw [gb1_]; exact X0.1 ▸ X0.2.1
  have sz_b1 : h0.size ≤ b1 := by rw [gb1_]; exact K1.1
  have f5 := X0.ext X3
  have f6 := K1.ext X3
  have f7 := Ec.ext X3
  have f8 := Ac.ext X3
  replace A_b1 : Arv Z h2 b1 k4 .byte (3 : Int32) [(.int (0 : Int32)), (.int (0 : Int32)), (.int (0 : Int32))] (.int (0 : Int32)) := A_b1.pad (pad_rep [] (.int (0 : Int32)) 3)
  show Rn w l _ n0 _ 3 #[.val (.ref c), .val (.int (0 : Int32)), .val (.int (3 : Int32)), .unset, .unset, .unset] [(.ref b1)] h2 1 3
  refine Rn.astoreN K (q := 4) (Ls' := #[.val (.ref c), .val (.int (0 : Int32)), .val (.int (3 : Int32)), .val (.ref b1), .unset, .unset]) d7_3 rfl rfl rfl ?_
  refine Rn.aloadN K (q := 5) d7_4 rfl rfl rfl ?_
  refine Rn.iloadN K (q := 6) d7_5 rfl rfl ?_
  refine Rn.aloadN K (q := 7) d7_6 rfl rfl rfl ?_
  refine Rn.iconst K (q := 8) (0 : Int32) d7_7 rfl rfl ?_
  refine Rn.iloadN K (q := 9) d7_8 rfl rfl ?_
  refine Rn.stat K (q := 12) (W := 0) (y := (⟨"java/lang/StringUTF16", "compress", "([CI[BII)I"⟩ : MethodName)) (argsL := [(.ref c), (.int (0 : Int32)), (.ref b1), (.int (0 : Int32)), (.int (3 : Int32))]) (rest := []) (List.mem_of_getElem? (i := 40) rfl) (List.mem_of_getElem? (i := 41) rfl) (List.mem_of_getElem? (i := 42) rfl) (List.mem_of_getElem? (i := 38) rfl) (by decide) (m_cpr3 l Z a0 hw n0 h2 c b1 kc k4 x0 x1 x2 f5 f7 f8 EA_b1 A_b1 g_b1 hx0 hx1 hx2) (by decide) (by decide) rfl (lenOf pd_8 rfl) rfl (Nat.le_of_ble_eq_true rfl) d7_9 rfl (by decide) (by decide) ?_
  rintro _ h9 ⟨rfl, K10, A11⟩
  have f12 := f5.keep K10 (allS g_b1 all0)
  have f13 := f6.trans K10 (allS (Or.inr sz_b1) all0)
  have f14 := f7.keep K10
  have f15 := f8.keep K10 (ninS ne_c_b1 nin0)
  have f16 := EA_b1.keep K10
  show Rn w l _ n0 _ 12 #[.val (.ref c), .val (.int (0 : Int32)), .val (.int (3 : Int32)), .val (.ref b1), .unset, .unset] [(.int (3 : Int32))] h9 1 3
  refine Rn.istore K (q := 14) (Ls' := #[.val (.ref c), .val (.int (0 : Int32)), .val (.int (3 : Int32)), .val (.ref b1), .val (.int (3 : Int32)), .unset]) d7_12 rfl rfl ?_
  refine Rn.iload K (q := 16) d7_14 rfl rfl ?_
  refine Rn.iloadN K (q := 17) d7_16 rfl rfl ?_
  refine Rn.icY K (q := 57) d7_17 (XT.ii_eq_t rfl) (by decide) (by decide) ?_
  refine Rn.aloadN K (q := 58) d7_57 rfl rfl rfl ?_
  exact Rn.retA K (.array .byte) rfl rfl rfl d7_58 (by decide) (by decide) ⟨_, _, rfl, f13, f16, A11⟩
theorem pn_m_cfl3 : plainName "java/lang/StringUTF16" = true := by first | (simp [plainName, overriddenIn]; done) | decide +kernel
set_option maxRecDepth 65536 in
set_option maxHeartbeats 40000000 in
theorem m_cfl3 (l : Launch) (Z : State) (a0 : Array Value) (hw : ∀ d ∈ tables_1, d.before a0 Z = true) (n0 : Nat) (h0 : Heap) (b : Addr) (k : ClassId) (x0 x1 x2 : Int32) (X0 : Old Z n0 h0) (Ab : Arv Z h0 b k .byte (3 : Int32) [(.int (nar .byte x0.toInt8.toInt32)), (.int (nar .byte x1.toInt8.toInt32)), (.int (nar .byte x2.toInt8.toInt32))] (.int (0 : Int32))) :
    Met l Z (⟨"java/lang/StringUTF16", "coderFromArrayLen", "([BI)B"⟩ : MethodName) jdk_52_method_15_code 2 (some .byte) ({ frames := 0, cells := 0, slots := 0, locals := 0 } : Room) n0 [] #[(.ref b), (.int (3 : Int32))] h0 (fun v h => v = some (.int (0 : Int32)) ∧ h0 = h) := by
  refine Met.intro (Ls := #[.val (.ref b), .val (.int (3 : Int32))]) (plainFor_of_name pn_m_cfl3) hw (fun m => by first | rfl | (simp [entryFrame, mkF, argsToLocals, Value.category]; done)) ?_
  intro w K0
  have K : Cx w Z a0 "java/lang/StringUTF16" jdk_52_method_15_code 2 (some .byte) "coderFromArrayLen" := K0
  refine Rn.iloadN K (q := 1) d9_0 rfl rfl ?_
  refine Rn.aloadN K (q := 2) d9_1 rfl rfl rfl ?_
  refine Rn.arraylength K (q := 3) Ab d9_2 rfl ?_
  refine Rn.isub K (q := 4) d9_3 rfl ?_
  show Rn w l _ n0 _ 4 #[.val (.ref b), .val (.int (3 : Int32))] [(.int (0 : Int32))] h0 0 0
  refine Rn.bipush K (q := 6) (31 : Int32) d9_4 rfl rfl ?_
  refine Rn.iushr K (q := 7) d9_6 rfl ?_
  refine Rn.i2b K (q := 8) d9_7 rfl ?_
  exact Rn.retN K .byte rfl (by simp) d9_8 (by decide) (by decide) ⟨by rw [show nar .byte (((0 : Int32).toUInt32 >>> ((31 : Int32) &&& 31).toUInt32).toInt32).toInt8.toInt32 = 0 from by decide], rfl⟩
theorem pn_m_iv3 : plainName "java/lang/String" = true := by first | (simp [plainName, overriddenIn]; done) | decide +kernel
set_option maxRecDepth 65536 in
set_option maxHeartbeats 40000000 in
theorem m_iv3 (l : Launch) (Z : State) (a0 : Array Value) (hw : ∀ d ∈ tables_1, d.before a0 Z = true) (n0 : Nat) (h0 : Heap) (s c : Addr) (kc : ClassId) (x0 x1 x2 : Int32) (cst : Int32) (X0 : Old Z n0 h0) (SC : Sta Z Z.heap "java/lang/String" "COMPACT_STRINGS" "Z" (.int cst)) (hcs : ¬ cst = 0) (Es : Exa Z h0 s "java/lang/String") (gs : n0 ≤ s) (Fv : Fld Z h0 s "java/lang/String" "value" "[B" .null) (Fc : Fld Z h0 s "java/lang/String" "coder" "B" (.int (0 : Int32))) (Ec : Exa Z h0 c "[C") (Ac : Arv Z h0 c kc .char (3 : Int32) [(.int x0), (.int x1), (.int x2)] (.int (0 : Int32))) (hx0 : ¬ (255 : Int32) < x0) (hx1 : ¬ (255 : Int32) < x1) (hx2 : ¬ (255 : Int32) < x2) :
    Met l Z (⟨"java/lang/String", "<init>", "([CIILjava/lang/Void;)V"⟩ : MethodName) jdk_42_method_149_code 6 none ({ frames := 2, cells := 1, slots := 3, locals := 36 } : Room) n0 [] #[(.ref s), (.ref c), (.int (0 : Int32)), (.int (3 : Int32)), .null] h0 (fun r h => r = none ∧ Keep h0 h [s] ∧ ∃ v k, Fld Z h s "java/lang/String" "value" "[B" (.ref v) ∧ Fld Z h s "java/lang/String" "coder" "B" (.int (0 : Int32)) ∧ Exa Z h v "[B" ∧ Arv Z h v k .byte (3 : Int32) [(.int (nar .byte x0.toInt8.toInt32)), (.int (nar .byte x1.toInt8.toInt32)), (.int (nar .byte x2.toInt8.toInt32))] (.int (0 : Int32))) := by
  refine Met.intro (Ls := #[.val (.ref s), .val (.ref c), .val (.int (0 : Int32)), .val (.int (3 : Int32)), .val .null, .unset]) (plainFor_of_name pn_m_iv3) hw (fun m => by first | rfl | (simp [entryFrame, mkF, argsToLocals, Value.category]; done)) ?_
  intro w K0
  have K : Cx w Z a0 "java/lang/String" jdk_42_method_149_code 6 none "<init>" := K0
  have K1 := Keep.refl h0 [s]
  refine Rn.aloadN K (q := 1) d3_0 rfl rfl rfl ?_
  refine Rn.initO K (q := 4) (W := 0) (List.mem_of_getElem? (i := 15) rfl) (List.mem_of_getElem? (i := 16) rfl) (List.mem_of_getElem? (i := 17) rfl) (by decide) (by decide) rfl (Nat.le_of_ble_eq_true rfl) d3_1 rfl ?_
  refine Rn.iloadN K (q := 5) d3_4 rfl rfl ?_
  refine Rn.ifY K (q := 27) d3_5 (XT.i0_ne_t (by decide)) (by decide) (by decide) ?_
  refine Rn.getS K (q := 30) (List.mem_of_getElem? (i := 35) rfl) (SC.ext X0.2) d3_27 rfl ?_
  refine Rn.ifN K (q := 33) d3_30 (XT.i0_eq_f hcs) rfl ?_
  refine Rn.aloadN K (q := 34) d3_33 rfl rfl rfl ?_
  refine Rn.iloadN K (q := 35) d3_34 rfl rfl ?_
  refine Rn.iloadN K (q := 36) d3_35 rfl rfl ?_
  refine Rn.stat K (q := 39) (W := 0) (y := (⟨"java/lang/StringUTF16", "compress", "([CII)[B"⟩ : MethodName)) (argsL := [(.ref c), (.int (0 : Int32)), (.int (3 : Int32))]) (rest := []) (List.mem_of_getElem? (i := 36) rfl) (List.mem_of_getElem? (i := 37) rfl) (List.mem_of_getElem? (i := 39) rfl) (List.mem_of_getElem? (i := 38) rfl) (by decide) (m_cp3 l Z a0 hw n0 h0 c kc x0 x1 x2 X0 Ec Ac hx0 hx1 hx2) (by decide) (by decide) rfl (lenOf pd_9 rfl) rfl (Nat.le_of_ble_eq_true rfl) d3_36 rfl (by decide) (by decide) ?_
  rintro _ h1 ⟨v, k, rfl, K2, E3, A4⟩
  have f5 := X0.keep K2 all0
  have f6 := K1.trans K2 all0
  have f7 := Es.keep K2
  have f8 := Fv.keep K2 nin0
  have f9 := Fc.keep K2 nin0
  have f10 := Ec.keep K2
  have f11 := Ac.keep K2 nin0
  show Rn w l _ n0 _ 39 #[.val (.ref s), .val (.ref c), .val (.int (0 : Int32)), .val (.int (3 : Int32)), .val .null, .unset] [(.ref v)] h1 1 3
  refine Rn.astore K (q := 41) (Ls' := #[.val (.ref s), .val (.ref c), .val (.int (0 : Int32)), .val (.int (3 : Int32)), .val .null, .val (.ref v)]) d3_39 rfl rfl rfl ?_
  refine Rn.aloadN K (q := 42) d3_41 rfl rfl rfl ?_
  refine Rn.aload K (q := 44) d3_42 rfl rfl rfl ?_
  refine Rn.iloadN K (q := 45) d3_44 rfl rfl ?_
  refine Rn.stat K (q := 48) (W := 1) (y := (⟨"java/lang/StringUTF16", "coderFromArrayLen", "([BI)B"⟩ : MethodName)) (argsL := [(.ref v), (.int (3 : Int32))]) (rest := [(.ref s)]) (List.mem_of_getElem? (i := 43) rfl) (List.mem_of_getElem? (i := 44) rfl) (List.mem_of_getElem? (i := 45) rfl) (List.mem_of_getElem? (i := 38) rfl) (by decide) (m_cfl3 l Z a0 hw n0 h1 v k x0 x1 x2 f5 A4) (by decide) (by decide) rfl (lenOf pd_10 rfl) rfl (Nat.le_of_ble_eq_true rfl) d3_45 rfl (by decide) (by decide) ?_
  rintro _ _ ⟨rfl, rfl⟩
  show Rn w l _ n0 _ 48 #[.val (.ref s), .val (.ref c), .val (.int (0 : Int32)), .val (.int (3 : Int32)), .val .null, .val (.ref v)] [(.int (0 : Int32)), (.ref s)] h1 1 3
  refine Rn.putF K (q := 51) (ty := .byte) (v' := .int (nar .byte (0 : Int32))) (List.mem_of_getElem? (i := 25) rfl) Via.refl f9 f7 (Or.inr ⟨(List.mem_of_getElem? (i := 21) rfl), rfl, rfl⟩) (List.mem_of_getElem? (i := 5) rfl) (by decide) rfl (fits_nar_byte _) gs d3_48 rfl ?_
  intro h12 W13
  have f14 := f5.wr W13 gs
  have f15 := f6.wr W13 (Or.inl (List.mem_of_getElem? (i := 0) rfl))
  have f16 := f7.wr W13
  have f17 := Fld.other W13 f8 (Or.inr (slot_ne (Or.inr (K.hw _ (List.mem_of_getElem? (i := 20) rfl))) (Or.inr (K.hw _ (List.mem_of_getElem? (i := 21) rfl))) (by decide) (t := (.array .byte)) (t' := .byte) (by decide) (by decide)))
  have f18 := Fld.same W13 f9
  have f19 := f10.wr W13
  have f20 := f11.other W13 (ne_exa f10 f7 (by decide))
  have f21 := E3.wr W13
  have f22 := A4.other W13 (ne_exa E3 f7 (by decide))
  refine Rn.aloadN K (q := 52) d3_51 rfl rfl rfl ?_
  refine Rn.aload K (q := 54) d3_52 rfl rfl rfl ?_
  refine Rn.putF K (q := 57) (ty := (.array .byte)) (List.mem_of_getElem? (i := 24) rfl) Via.refl f17 f16 (Or.inr ⟨(List.mem_of_getElem? (i := 20) rfl), rfl, rfl⟩) (List.mem_of_getElem? (i := 5) rfl) (by decide) rfl rfl gs d3_54 rfl ?_
  intro h23 W24
  have f25 := f14.wr W24 gs
  have f26 := f15.wr W24 (Or.inl (List.mem_of_getElem? (i := 0) rfl))
  have f27 := f16.wr W24
  have f28 := Fld.same W24 f17
  have f29 := Fld.other W24 f18 (Or.inr (slot_ne (Or.inr (K.hw _ (List.mem_of_getElem? (i := 21) rfl))) (Or.inr (K.hw _ (List.mem_of_getElem? (i := 20) rfl))) (by decide) (t := .byte) (t' := (.array .byte)) (by decide) (by decide)))
  have f30 := f19.wr W24
  have f31 := f20.other W24 (ne_exa f19 f16 (by decide))
  have f32 := f21.wr W24
  have f33 := f22.other W24 (ne_exa f21 f16 (by decide))
  exact Rn.retV K rfl d3_57 (by decide) (by decide) ⟨rfl, f26, _, _, f28, f29, f32, f33⟩
theorem pn_m_ic3 : plainName "java/lang/String" = true := by first | (simp [plainName, overriddenIn]; done) | decide +kernel
set_option maxRecDepth 65536 in
set_option maxHeartbeats 40000000 in
theorem m_ic3 (l : Launch) (Z : State) (a0 : Array Value) (hw : ∀ d ∈ tables_1, d.before a0 Z = true) (n0 : Nat) (h0 : Heap) (s c : Addr) (kc : ClassId) (x0 x1 x2 : Int32) (cst : Int32) (X0 : Old Z n0 h0) (SC : Sta Z Z.heap "java/lang/String" "COMPACT_STRINGS" "Z" (.int cst)) (hcs : ¬ cst = 0) (Es : Exa Z h0 s "java/lang/String") (gs : n0 ≤ s) (Fv : Fld Z h0 s "java/lang/String" "value" "[B" .null) (Fc : Fld Z h0 s "java/lang/String" "coder" "B" (.int (0 : Int32))) (Ec : Exa Z h0 c "[C") (Ac : Arv Z h0 c kc .char (3 : Int32) [(.int x0), (.int x1), (.int x2)] (.int (0 : Int32))) (hx0 : ¬ (255 : Int32) < x0) (hx1 : ¬ (255 : Int32) < x1) (hx2 : ¬ (255 : Int32) < x2) :
    Met l Z (⟨"java/lang/String", "<init>", "([C)V"⟩ : MethodName) jdk_42_method_3_code 2 none ({ frames := 3, cells := 1, slots := 3, locals := 54 } : Room) n0 [] #[(.ref s), (.ref c)] h0 (fun r h => r = none ∧ Keep h0 h [s] ∧ ∃ v k, Fld Z h s "java/lang/String" "value" "[B" (.ref v) ∧ Fld Z h s "java/lang/String" "coder" "B" (.int (0 : Int32)) ∧ Exa Z h v "[B" ∧ Arv Z h v k .byte (3 : Int32) [(.int (nar .byte x0.toInt8.toInt32)), (.int (nar .byte x1.toInt8.toInt32)), (.int (nar .byte x2.toInt8.toInt32))] (.int (0 : Int32))) := by
  refine Met.intro (Ls := #[.val (.ref s), .val (.ref c)]) (plainFor_of_name pn_m_ic3) hw (fun m => by first | rfl | (simp [entryFrame, mkF, argsToLocals, Value.category]; done)) ?_
  intro w K0
  have K : Cx w Z a0 "java/lang/String" jdk_42_method_3_code 2 none "<init>" := K0
  refine Rn.aloadN K (q := 1) d2_0 rfl rfl rfl ?_
  refine Rn.aloadN K (q := 2) d2_1 rfl rfl rfl ?_
  refine Rn.iconst K (q := 3) (0 : Int32) d2_2 rfl rfl ?_
  refine Rn.aloadN K (q := 4) d2_3 rfl rfl rfl ?_
  refine Rn.arraylength K (q := 5) Ac d2_4 rfl ?_
  refine Rn.aconst_null K (q := 6) d2_5 rfl ?_
  refine Rn.spec K (q := 9) (W := 0) (y := (⟨"java/lang/String", "<init>", "([CIILjava/lang/Void;)V"⟩ : MethodName)) (b := s) (argsL := [(.ref c), (.int (0 : Int32)), (.int (3 : Int32)), .null]) (rest := []) rfl (List.mem_of_getElem? (i := 11) rfl) (List.mem_of_getElem? (i := 12) rfl) (List.mem_of_getElem? (i := 14) rfl) (List.mem_of_getElem? (i := 6) rfl) (by decide) (m_iv3 l Z a0 hw n0 h0 s c kc x0 x1 x2 cst X0 SC hcs Es gs Fv Fc Ec Ac hx0 hx1 hx2) (by decide) (by decide) rfl (lenOf pd_11 rfl) rfl (Nat.le_of_ble_eq_true rfl) d2_6 rfl (by decide) (by decide) ?_
  rintro _ h1 ⟨rfl, K2, Q2⟩
  show Rn w l _ n0 _ 9 #[.val (.ref s), .val (.ref c)] [] h1 1 3
  exact Rn.retV K rfl d2_9 (by decide) (by decide) ⟨rfl, K2, Q2⟩
theorem d1_49 : decode method_2_code 49 = .ok (.new 7, 3) := by decide +kernel
theorem d1_52 : decode method_2_code 52 = .ok (.dup, 1) := by decide +kernel
theorem d1_53 : decode method_2_code 53 = .ok (.iconst 3, 1) := by decide +kernel
theorem d1_54 : decode method_2_code 54 = .ok (.newarray .char, 2) := by decide +kernel
theorem d1_56 : decode method_2_code 56 = .ok (.dup, 1) := by decide +kernel
theorem d1_57 : decode method_2_code 57 = .ok (.iconst 0, 1) := by decide +kernel
theorem d1_58 : decode method_2_code 58 = .ok (.iload_n 1, 1) := by decide +kernel
theorem d1_59 : decode method_2_code 59 = .ok (.castore, 1) := by decide +kernel
theorem d1_60 : decode method_2_code 60 = .ok (.dup, 1) := by decide +kernel
theorem d1_61 : decode method_2_code 61 = .ok (.iconst 1, 1) := by decide +kernel
theorem d1_62 : decode method_2_code 62 = .ok (.iload_n 2, 1) := by decide +kernel
theorem d1_63 : decode method_2_code 63 = .ok (.castore, 1) := by decide +kernel
theorem d1_64 : decode method_2_code 64 = .ok (.dup, 1) := by decide +kernel
theorem d1_65 : decode method_2_code 65 = .ok (.iconst 2, 1) := by decide +kernel
theorem d1_66 : decode method_2_code 66 = .ok (.iload_n 3, 1) := by decide +kernel
theorem d1_67 : decode method_2_code 67 = .ok (.castore, 1) := by decide +kernel
theorem d1_68 : decode method_2_code 68 = .ok (.invokespecial 9, 3) := by decide +kernel
theorem d1_71 : decode method_2_code 71 = .ok (.areturn, 1) := by decide +kernel
theorem pn_m_dr3 : plainName "com/example/ballast/ballast/ColumnOrNonePinLaw" = true := by first | (simp [plainName, overriddenIn]; done) | decide +kernel
set_option maxRecDepth 65536 in
set_option maxHeartbeats 40000000 in
theorem m_dr3 (l : Launch) (Z : State) (a0 : Array Value) (hw : ∀ d ∈ tables_1, d.before a0 Z = true) (n0 : Nat) (h0 : Heap) (x0 x1 x2 : Int32) (cst : Int32) (X0 : Old Z n0 h0) (SC : Sta Z Z.heap "java/lang/String" "COMPACT_STRINGS" "Z" (.int cst)) (hcs : ¬ cst = 0) (hx0 : ¬ (255 : Int32) < nar .char x0) (hx1 : ¬ (255 : Int32) < nar .char x1) (hx2 : ¬ (255 : Int32) < nar .char x2) :
    Met l Z (⟨"com/example/ballast/ballast/ColumnOrNonePinLaw", "draw", "(ICCC)Ljava/lang/String;"⟩ : MethodName) method_2_code 4 (some (.object "java/lang/String")) ({ frames := 4, cells := 3, slots := 10, locals := 70 } : Room) n0 [] #[(.int (3 : Int32)), (.int x0), (.int x1), (.int x2)] h0 (fun r h => ∃ s v k, r = some (.ref s) ∧ Keep h0 h [] ∧ Exa Z h s "java/lang/String" ∧ Fld Z h s "java/lang/String" "coder" "B" (.int (0 : Int32)) ∧ Fld Z h s "java/lang/String" "value" "[B" (.ref v) ∧ Arv Z h v k .byte (3 : Int32) [(.int (nar .byte (nar .char x0).toInt8.toInt32)), (.int (nar .byte (nar .char x1).toInt8.toInt32)), (.int (nar .byte (nar .char x2).toInt8.toInt32))] (.int (0 : Int32))) := by
  refine Met.intro (Ls := #[.val (.int (3 : Int32)), .val (.int x0), .val (.int x1), .val (.int x2)]) (plainFor_of_name pn_m_dr3) hw (fun m => by first | rfl | (simp [entryFrame, mkF, argsToLocals, Value.category]; done)) ?_
  intro w K0
  have K : Cx w Z a0 "com/example/ballast/ballast/ColumnOrNonePinLaw" method_2_code 4 (some (.object "java/lang/String")) "draw" := K0
  have K1 := Keep.refl h0 []
  refine Rn.iloadN K (q := 1) d1_0 rfl rfl ?_
  refine Rn.ifY K (q := 15) d1_1 (XT.i0_ne_t (by decide)) (by decide) (by decide) ?_
  refine Rn.iloadN K (q := 16) d1_15 rfl rfl ?_
  refine Rn.iconst K (q := 17) (1 : Int32) d1_16 rfl rfl ?_
  refine Rn.icY K (q := 25) d1_17 (XT.ii_ne_t (by decide)) (by decide) (by decide) ?_
  refine Rn.iloadN K (q := 26) d1_25 rfl rfl ?_
  refine Rn.iconst K (q := 27) (2 : Int32) d1_26 rfl rfl ?_
  refine Rn.icY K (q := 49) d1_27 (XT.ii_ne_t (by decide)) (by decide) (by decide) ?_
  refine Rn.newO K (q := 52) (List.mem_of_getElem? (i := 4) rfl) (List.mem_of_getElem? (i := 5) rfl) (List.mem_of_getElem? (i := 6) rfl) (by decide) (by decide) d1_49 rfl ?_
  intro b1 h2 gb1_ X3 A_b1 D4
  have g_b1 : n0 ≤ b1 := by rw [gb1_]; exact X0.1 ▸ X0.2.1
  have sz_b1 : h0.size ≤ b1 := by rw [gb1_]; exact K1.1
  have f5 := X0.ext X3
  have f6 := K1.ext X3
  have f7 : Fld Z h2 b1 "java/lang/String" "value" "[B" .null := D4 (Or.inr (K.hw _ (List.mem_of_getElem? (i := 20) rfl))) (ty := (.array .byte)) (by decide)
  have f8 : Fld Z h2 b1 "java/lang/String" "coder" "B" (.int (0 : Int32)) := D4 (Or.inr (K.hw _ (List.mem_of_getElem? (i := 21) rfl))) (ty := .byte) (by decide)
  show Rn w l _ n0 _ 52 #[.val (.int (3 : Int32)), .val (.int x0), .val (.int x1), .val (.int x2)] [(.ref b1)] h2 1 4
  refine Rn.dup K (q := 53) d1_52 rfl rfl ?_
  refine Rn.iconst K (q := 54) (3 : Int32) d1_53 rfl rfl ?_
  refine Rn.newP K (q := 56) (cap := 3) (List.mem_of_getElem? (i := 7) rfl) (by decide) (by decide) (by decide) (by decide) (by decide) (ad := "[C") (by decide) d1_54 rfl ?_
  intro b9 h10 k12 gb9_ X11 A_b9 EA_b9
  have ne_b1_b9 : b1 ≠ b9 := fun e => absurd A_b1.lt (by rw [e, gb9_]; exact Nat.lt_irrefl _)
  have g_b9 : n0 ≤ b9 := by rw [gb9_]; exact f5.1 ▸ f5.2.1
  have sz_b9 : h0.size ≤ b9 := by rw [gb9_]; exact f6.1
  have f13 := f5.ext X11
  have f14 := f6.ext X11
  have f15 := A_b1.ext X11
  have f16 := f7.ext X11
  have f17 := f8.ext X11
  replace A_b9 : Arv Z h10 b9 k12 .char (3 : Int32) [(.int (0 : Int32)), (.int (0 : Int32)), (.int (0 : Int32))] (.int (0 : Int32)) := A_b9.pad (pad_rep [] (.int (0 : Int32)) 3)
  show Rn w l _ n0 _ 56 #[.val (.int (3 : Int32)), .val (.int x0), .val (.int x1), .val (.int x2)] [(.ref b9), (.ref b1), (.ref b1)] h10 2 7
  refine Rn.dup K (q := 57) d1_56 rfl rfl ?_
  refine Rn.iconst K (q := 58) (0 : Int32) d1_57 rfl rfl ?_
  refine Rn.iloadN K (q := 59) d1_58 rfl rfl ?_
  refine Rn.castore K (q := 60) (i := 0) A_b9 (by decide) rfl (Nat.le_of_ble_eq_true rfl) g_b9 d1_59 rfl ?_
  intro h18 W19 A20
  have f21 := f13.wr W19 g_b9
  have f22 := f14.wr W19 (Or.inr sz_b9)
  have f23 := f15.wr W19
  have f24 := Fld.other W19 f16 (Or.inl ne_b1_b9)
  have f25 := Fld.other W19 f17 (Or.inl ne_b1_b9)
  have f26 := EA_b9.wr W19
  replace A20 : Arv Z h18 b9 k12 .char (3 : Int32) [(.int (nar .char x0)), (.int (0 : Int32)), (.int (0 : Int32))] (.int (0 : Int32)) := A20
  refine Rn.dup K (q := 61) d1_60 rfl rfl ?_
  refine Rn.iconst K (q := 62) (1 : Int32) d1_61 rfl rfl ?_
  refine Rn.iloadN K (q := 63) d1_62 rfl rfl ?_
  refine Rn.castore K (q := 64) (i := 1) A20 (by decide) rfl (Nat.le_of_ble_eq_true rfl) g_b9 d1_63 rfl ?_
  intro h27 W28 A29
  have f30 := f21.wr W28 g_b9
  have f31 := f22.wr W28 (Or.inr sz_b9)
  have f32 := f23.wr W28
  have f33 := Fld.other W28 f24 (Or.inl ne_b1_b9)
  have f34 := Fld.other W28 f25 (Or.inl ne_b1_b9)
  have f35 := f26.wr W28
  replace A29 : Arv Z h27 b9 k12 .char (3 : Int32) [(.int (nar .char x0)), (.int (nar .char x1)), (.int (0 : Int32))] (.int (0 : Int32)) := A29
  refine Rn.dup K (q := 65) d1_64 rfl rfl ?_
  refine Rn.iconst K (q := 66) (2 : Int32) d1_65 rfl rfl ?_
  refine Rn.iloadN K (q := 67) d1_66 rfl rfl ?_
  refine Rn.castore K (q := 68) (i := 2) A29 (by decide) rfl (Nat.le_of_ble_eq_true rfl) g_b9 d1_67 rfl ?_
  intro h36 W37 A38
  have f39 := f30.wr W37 g_b9
  have f40 := f31.wr W37 (Or.inr sz_b9)
  have f41 := f32.wr W37
  have f42 := Fld.other W37 f33 (Or.inl ne_b1_b9)
  have f43 := Fld.other W37 f34 (Or.inl ne_b1_b9)
  have f44 := f35.wr W37
  replace A38 : Arv Z h36 b9 k12 .char (3 : Int32) [(.int (nar .char x0)), (.int (nar .char x1)), (.int (nar .char x2))] (.int (0 : Int32)) := A38
  refine Rn.spec K (q := 71) (W := 1) (y := (⟨"java/lang/String", "<init>", "([C)V"⟩ : MethodName)) (b := b1) (argsL := [(.ref b9)]) (rest := [(.ref b1)]) rfl (List.mem_of_getElem? (i := 8) rfl) (List.mem_of_getElem? (i := 9) rfl) (List.mem_of_getElem? (i := 10) rfl) (List.mem_of_getElem? (i := 6) rfl) (by decide) (m_ic3 l Z a0 hw n0 h36 b1 b9 k12 (nar .char x0) (nar .char x1) (nar .char x2) cst f39 SC hcs f41 g_b1 f42 f43 f44 A38 hx0 hx1 hx2) (by decide) (by decide) rfl (lenOf pd_12 rfl) rfl (Nat.le_of_ble_eq_true rfl) d1_68 rfl (by decide) (by decide) ?_
  rintro _ h45 ⟨rfl, K46, v, k, F47, F48, -, A49⟩
  have f50 := f39.keep K46 (allS g_b1 all0)
  have f51 := f40.trans K46 (allS (Or.inr sz_b1) all0)
  have f52 := f41.keep K46
  have f53 := A38.keep K46 (ninS (Ne.symm ne_b1_b9) nin0)
  have f54 := f44.keep K46
  show Rn w l _ n0 _ 71 #[.val (.int (3 : Int32)), .val (.int x0), .val (.int x1), .val (.int x2)] [(.ref b1)] h45 3 10
  exact Rn.retA K (.object "java/lang/String") rfl rfl rfl d1_71 (by decide) (by decide) ⟨_, _, _, rfl, f51, f52, F48, F47, A49⟩
theorem d1_20 : decode method_2_code 20 = .ok (.iload_n 1, 1) := by decide +kernel
theorem d1_21 : decode method_2_code 21 = .ok (.invokestatic 12, 3) := by decide +kernel
theorem d1_24 : decode method_2_code 24 = .ok (.areturn, 1) := by decide +kernel
theorem pn_m_dr1 : plainName "com/example/ballast/ballast/ColumnOrNonePinLaw" = true := by first | (simp [plainName, overriddenIn]; done) | decide +kernel
set_option maxRecDepth 65536 in
set_option maxHeartbeats 40000000 in
theorem m_dr1 (l : Launch) (Z : State) (a0 : Array Value) (hw : ∀ d ∈ tables_1, d.before a0 Z = true) (n0 : Nat) (h0 : Heap) (x0 x1 x2 : Int32) (cst : Int32) (X0 : Old Z n0 h0) (SC : Sta Z Z.heap "java/lang/String" "COMPACT_STRINGS" "Z" (.int cst)) (hcs : ¬ cst = 0) (hx0 : ¬ (255 : Int32) < x0) :
    Met l Z (⟨"com/example/ballast/ballast/ColumnOrNonePinLaw", "draw", "(ICCC)Ljava/lang/String;"⟩ : MethodName) method_2_code 4 (some (.object "java/lang/String")) ({ frames := 3, cells := 2, slots := 5, locals := 44 } : Room) n0 [] #[(.int (1 : Int32)), (.int x0), (.int x1), (.int x2)] h0 (fun r h => ∃ s v k, r = some (.ref s) ∧ Keep h0 h [] ∧ Exa Z h s "java/lang/String" ∧ Fld Z h s "java/lang/String" "coder" "B" (.int (0 : Int32)) ∧ Fld Z h s "java/lang/String" "value" "[B" (.ref v) ∧ Arv Z h v k .byte (1 : Int32) [(.int (nar .byte x0.toInt8.toInt32))] (.int (0 : Int32))) := by
  refine Met.intro (Ls := #[.val (.int (1 : Int32)), .val (.int x0), .val (.int x1), .val (.int x2)]) (plainFor_of_name pn_m_dr1) hw (fun m => by first | rfl | (simp [entryFrame, mkF, argsToLocals, Value.category]; done)) ?_
  intro w K0
  have K : Cx w Z a0 "com/example/ballast/ballast/ColumnOrNonePinLaw" method_2_code 4 (some (.object "java/lang/String")) "draw" := K0
  refine Rn.iloadN K (q := 1) d1_0 rfl rfl ?_
  refine Rn.ifY K (q := 15) d1_1 (XT.i0_ne_t (by decide)) (by decide) (by decide) ?_
  refine Rn.iloadN K (q := 16) d1_15 rfl rfl ?_
  refine Rn.iconst K (q := 17) (1 : Int32) d1_16 rfl rfl ?_
  refine Rn.icN K (q := 20) d1_17 (XT.ii_ne_f rfl) rfl ?_
  refine Rn.iloadN K (q := 21) d1_20 rfl rfl ?_
  refine Rn.stat K (q := 24) (W := 0) (y := (⟨"java/lang/String", "valueOf", "(C)Ljava/lang/String;"⟩ : MethodName)) (argsL := [(.int x0)]) (rest := []) (List.mem_of_getElem? (i := 83) rfl) (List.mem_of_getElem? (i := 84) rfl) (List.mem_of_getElem? (i := 85) rfl) (List.mem_of_getElem? (i := 6) rfl) (by decide) (m_vof l Z a0 hw n0 h0 x0 cst X0 SC hcs hx0) (by decide) (by decide) rfl (lenOf pd_13 rfl) rfl (Nat.le_of_ble_eq_true rfl) d1_21 rfl (by decide) (by decide) ?_
  rintro _ h1 ⟨s, v, k, rfl, Q1⟩
  show Rn w l _ n0 _ 24 #[.val (.int (1 : Int32)), .val (.int x0), .val (.int x1), .val (.int x2)] [(.ref s)] h1 2 5
  exact Rn.retA K (.object "java/lang/String") rfl rfl rfl d1_24 (by decide) (by decide) ⟨_, _, _, rfl, Q1⟩
abbrev EL1 : List (String × Nat) := [("java/lang/String", 7)]
theorem own_EW {Z : State} {a0 : Array Value} (hw : ∀ d ∈ tables_1, d.before a0 Z = true) : EW Z a0 EL1 := (EW.cons (hw _ (List.mem_of_getElem? (i := 18) rfl)) (by decide) EW.nil)
theorem own_wS {Z : State} {a0 : Array Value} (hw : ∀ d ∈ tables_1, d.before a0 Z = true) : ∀ d ∈ Bundle.stringAtoms, d.before a0 Z = true := fun d hd => hw d ((by decide +kernel : ∀ d ∈ Bundle.stringAtoms, d ∈ tables_1) d hd)

theorem d3_8 : decode jdk_42_method_149_code 8 = .ok (.aload_n 0, 1) := by decide +kernel
theorem d3_9 : decode jdk_42_method_149_code 9 = .ok (.ldc 7, 2) := by decide +kernel
theorem d3_11 : decode jdk_42_method_149_code 11 = .ok (.getfield 9, 3) := by decide +kernel
theorem d3_14 : decode jdk_42_method_149_code 14 = .ok (.putfield 9, 3) := by decide +kernel
theorem d3_17 : decode jdk_42_method_149_code 17 = .ok (.aload_n 0, 1) := by decide +kernel
theorem d3_18 : decode jdk_42_method_149_code 18 = .ok (.ldc 7, 2) := by decide +kernel
theorem d3_20 : decode jdk_42_method_149_code 20 = .ok (.getfield 15, 3) := by decide +kernel
theorem d3_23 : decode jdk_42_method_149_code 23 = .ok (.putfield 15, 3) := by decide +kernel
theorem d3_26 : decode jdk_42_method_149_code 26 = .ok (.return_, 1) := by decide +kernel
theorem pn_m_iv0 : plainName "java/lang/String" = true := by first | (simp [plainName, overriddenIn]; done) | decide +kernel
set_option maxRecDepth 65536 in
set_option maxHeartbeats 40000000 in
theorem m_iv0 (l : Launch) (Z : State) (a0 : Array Value) (hw : ∀ d ∈ tables_1, d.before a0 Z = true) (n0 : Nat) (h0 : Heap) (s c : Addr) (X0 : Old Z n0 h0) (Es : Exa Z h0 s "java/lang/String") (gs : n0 ≤ s) (Fv : Fld Z h0 s "java/lang/String" "value" "[B" .null) (Fc : Fld Z h0 s "java/lang/String" "coder" "B" (.int (0 : Int32))) :
    MetS l Z EL1 (⟨"java/lang/String", "<init>", "([CIILjava/lang/Void;)V"⟩ : MethodName) jdk_42_method_149_code 6 none ({ frames := 1, cells := 4, slots := 8, locals := 12 } : Room) n0 [] [s] #[(.ref s), (.ref c), (.int (0 : Int32)), (.int (0 : Int32)), .null] h0 (fun r h => r = none ∧ Keep h0 h [s] ∧ ∃ v k, Fld Z h s "java/lang/String" "value" "[B" (.ref v) ∧ Fld Z h s "java/lang/String" "coder" "B" (.int (0 : Int32)) ∧ Arv Z h v k .byte (0 : Int32) [] (.int (0 : Int32))) := by
  refine MetS.intro (Ls := #[.val (.ref s), .val (.ref c), .val (.int (0 : Int32)), .val (.int (0 : Int32)), .val .null, .unset]) (plainFor_of_name pn_m_iv0) hw (fun m => by first | rfl | (simp [entryFrame, mkF, argsToLocals, Value.category]; done)) ?_
  intro w K0
  have hEL := own_EW hw
  have wS := own_wS hw
  have K : Cx w Z a0 "java/lang/String" jdk_42_method_149_code 6 none "<init>" := K0
  have K1 := Keep.refl h0 [s]
  refine RnS.lift (fun vm0 hs r => have K := K.on hs; Rn.aloadN K (q := 1) d3_0 rfl rfl rfl r) ?_
  refine RnS.lift (fun vm0 hs r => have K := K.on hs; Rn.initO K (q := 4) (W := 0) (List.mem_of_getElem? (i := 15) rfl) (List.mem_of_getElem? (i := 16) rfl) (List.mem_of_getElem? (i := 17) rfl) (by decide) (by decide) rfl (Nat.le_of_ble_eq_true rfl) d3_1 rfl r) ?_
  refine RnS.lift (fun vm0 hs r => have K := K.on hs; Rn.iloadN K (q := 5) d3_4 rfl rfl r) ?_
  refine RnS.lift (fun vm0 hs r => have K := K.on hs; Rn.ifN K (q := 8) d3_5 (XT.i0_ne_f rfl) rfl r) ?_
  refine RnS.lift (fun vm0 hs r => have K := K.on hs; Rn.aloadN K (q := 9) d3_8 rfl rfl rfl r) ?_
  refine RnS.ldcS K (q := 11) (n := 0) (vs := []) (z := (0 : Int32)) (List.mem_of_getElem? (i := 18) rfl) wS hEL (List.mem_of_getElem? (i := 0) rfl) (by decide) (by decide) rfl (by decide) (by decide) (by decide) (by decide) d3_9 rfl ?_
  intro la1 lb2 k3 h4 X5 q6 q7 q8 q9 q10
  have f11 := X0.ext X5
  have f12 := K1.ext X5
  have f13 := Es.ext X5
  have f14 := Fv.ext X5
  have f15 := Fc.ext X5
  show RnS w l _ n0 _ Z EL1 [s] 11 #[.val (.ref s), .val (.ref c), .val (.int (0 : Int32)), .val (.int (0 : Int32)), .val .null, .unset] [(.ref la1), (.ref s)] h4 2 4
  refine RnS.lift (fun vm0 hs r => have K := K.on hs; Rn.getF K (q := 14) (List.mem_of_getElem? (i := 24) rfl) Via.refl q8 d3_11 rfl r) ?_
  refine RnS.liftW (Or.inl (List.mem_of_getElem? (i := 0) rfl)) (fun vm0 hs r => have K := K.on hs; Rn.putF K (q := 17) (ty := (.array .byte)) (List.mem_of_getElem? (i := 24) rfl) Via.refl f14 f13 (Or.inr ⟨(List.mem_of_getElem? (i := 20) rfl), rfl, rfl⟩) (List.mem_of_getElem? (i := 5) rfl) (by decide) rfl rfl gs d3_14 rfl r) ?_
  intro h16 W17
  have f18 := f11.wr W17 gs
  have f19 := f12.wr W17 (Or.inl (List.mem_of_getElem? (i := 0) rfl))
  have f20 := f13.wr W17
  have f21 := Fld.same W17 f14
  have f22 := Fld.other W17 f15 (Or.inr (slot_ne (Or.inr (K.hw _ (List.mem_of_getElem? (i := 21) rfl))) (Or.inr (K.hw _ (List.mem_of_getElem? (i := 20) rfl))) (by decide) (t := .byte) (t' := (.array .byte)) (by decide) (by decide)))
  have f23 := q6.wr W17
  have f24 := Fld.other W17 q7 (Or.inl (Ne.symm (q10 s (List.mem_of_getElem? (i := 0) rfl)).1))
  have f25 := Fld.other W17 q8 (Or.inl (Ne.symm (q10 s (List.mem_of_getElem? (i := 0) rfl)).1))
  have f26 := q9.other W17 (Ne.symm (q10 s (List.mem_of_getElem? (i := 0) rfl)).2)
  refine RnS.lift (fun vm0 hs r => have K := K.on hs; Rn.aloadN K (q := 18) d3_17 rfl rfl rfl r) ?_
  refine RnS.ldcS K (q := 20) (n := 0) (vs := []) (z := (0 : Int32)) (List.mem_of_getElem? (i := 18) rfl) wS hEL (List.mem_of_getElem? (i := 0) rfl) (by decide) (by decide) rfl (by decide) (by decide) (by decide) (by decide) d3_18 rfl ?_
  intro la27 lb28 k29 h30 X31 q32 q33 q34 q35 q36
  have f37 := f18.ext X31
  have f38 := f19.ext X31
  have f39 := f20.ext X31
  have f40 := f21.ext X31
  have f41 := f22.ext X31
  have f42 := f23.ext X31
  have f43 := f24.ext X31
  have f44 := f25.ext X31
  have f45 := f26.ext X31
  show RnS w l _ n0 _ Z EL1 [s] 20 #[.val (.ref s), .val (.ref c), .val (.int (0 : Int32)), .val (.int (0 : Int32)), .val .null, .unset] [(.ref la27), (.ref s)] h30 4 8
  refine RnS.lift (fun vm0 hs r => have K := K.on hs; Rn.getF K (q := 23) (List.mem_of_getElem? (i := 25) rfl) Via.refl q33 d3_20 rfl r) ?_
  refine RnS.liftW (Or.inl (List.mem_of_getElem? (i := 0) rfl)) (fun vm0 hs r => have K := K.on hs; Rn.putF K (q := 26) (ty := .byte) (v' := .int (nar .byte (0 : Int32))) (List.mem_of_getElem? (i := 25) rfl) Via.refl f41 f39 (Or.inr ⟨(List.mem_of_getElem? (i := 21) rfl), rfl, rfl⟩) (List.mem_of_getElem? (i := 5) rfl) (by decide) rfl (fits_nar_byte _) gs d3_23 rfl r) ?_
  intro h46 W47
  have f48 := f37.wr W47 gs
  have f49 := f38.wr W47 (Or.inl (List.mem_of_getElem? (i := 0) rfl))
  have f50 := f39.wr W47
  have f51 := Fld.other W47 f40 (Or.inr (slot_ne (Or.inr (K.hw _ (List.mem_of_getElem? (i := 20) rfl))) (Or.inr (K.hw _ (List.mem_of_getElem? (i := 21) rfl))) (by decide) (t := (.array .byte)) (t' := .byte) (by decide) (by decide)))
  have f52 := Fld.same W47 f41
  have f53 := f42.wr W47
  have f54 := Fld.other W47 f43 (Or.inl (Ne.symm (q10 s (List.mem_of_getElem? (i := 0) rfl)).1))
  have f55 := Fld.other W47 f44 (Or.inl (Ne.symm (q10 s (List.mem_of_getElem? (i := 0) rfl)).1))
  have f56 := f45.other W47 (Ne.symm (q10 s (List.mem_of_getElem? (i := 0) rfl)).2)
  have f57 := q32.wr W47
  have f58 := Fld.other W47 q33 (Or.inl (Ne.symm (q36 s (List.mem_of_getElem? (i := 0) rfl)).1))
  have f59 := Fld.other W47 q34 (Or.inl (Ne.symm (q36 s (List.mem_of_getElem? (i := 0) rfl)).1))
  have f60 := q35.other W47 (Ne.symm (q36 s (List.mem_of_getElem? (i := 0) rfl)).2)
  exact RnS.retV K hEL rfl d3_26 (by decide) (by decide) ⟨rfl, f49, _, _, f51, f52, f56⟩
theorem pn_m_ic0 : plainName "java/lang/String" = true := by first | (simp [plainName, overriddenIn]; done) | decide +kernel
set_option maxRecDepth 65536 in
set_option maxHeartbeats 40000000 in
theorem m_ic0 (l : Launch) (Z : State) (a0 : Array Value) (hw : ∀ d ∈ tables_1, d.before a0 Z = true) (n0 : Nat) (h0 : Heap) (s c : Addr) (kc : ClassId) (X0 : Old Z n0 h0) (Es : Exa Z h0 s "java/lang/String") (gs : n0 ≤ s) (Fv : Fld Z h0 s "java/lang/String" "value" "[B" .null) (Fc : Fld Z h0 s "java/lang/String" "coder" "B" (.int (0 : Int32))) (Ac : Arv Z h0 c kc .char (0 : Int32) [] (.int (0 : Int32))) :
    MetS l Z EL1 (⟨"java/lang/String", "<init>", "([C)V"⟩ : MethodName) jdk_42_method_3_code 2 none ({ frames := 2, cells := 4, slots := 8, locals := 30 } : Room) n0 [] [s] #[(.ref s), (.ref c)] h0 (fun r h => r = none ∧ Keep h0 h [s] ∧ ∃ v k, Fld Z h s "java/lang/String" "value" "[B" (.ref v) ∧ Fld Z h s "java/lang/String" "coder" "B" (.int (0 : Int32)) ∧ Arv Z h v k .byte (0 : Int32) [] (.int (0 : Int32))) := by
  refine MetS.intro (Ls := #[.val (.ref s), .val (.ref c)]) (plainFor_of_name pn_m_ic0) hw (fun m => by first | rfl | (simp [entryFrame, mkF, argsToLocals, Value.category]; done)) ?_
  intro w K0
  have hEL := own_EW hw
  have wS := own_wS hw
  have K : Cx w Z a0 "java/lang/String" jdk_42_method_3_code 2 none "<init>" := K0
  refine RnS.lift (fun vm0 hs r => have K := K.on hs; Rn.aloadN K (q := 1) d2_0 rfl rfl rfl r) ?_
  refine RnS.lift (fun vm0 hs r => have K := K.on hs; Rn.aloadN K (q := 2) d2_1 rfl rfl rfl r) ?_
  refine RnS.lift (fun vm0 hs r => have K := K.on hs; Rn.iconst K (q := 3) (0 : Int32) d2_2 rfl rfl r) ?_
  refine RnS.lift (fun vm0 hs r => have K := K.on hs; Rn.aloadN K (q := 4) d2_3 rfl rfl rfl r) ?_
  refine RnS.lift (fun vm0 hs r => have K := K.on hs; Rn.arraylength K (q := 5) Ac d2_4 rfl r) ?_
  refine RnS.lift (fun vm0 hs r => have K := K.on hs; Rn.aconst_null K (q := 6) d2_5 rfl r) ?_
  refine RnS.specS K hEL (q := 9) (W := 0) (y := (⟨"java/lang/String", "<init>", "([CIILjava/lang/Void;)V"⟩ : MethodName)) (b := s) (argsL := [(.ref c), (.int (0 : Int32)), (.int (0 : Int32)), .null]) (rest := []) rfl (List.mem_of_getElem? (i := 11) rfl) (List.mem_of_getElem? (i := 12) rfl) (List.mem_of_getElem? (i := 14) rfl) (List.mem_of_getElem? (i := 6) rfl) (by decide) (by simp) (m_iv0 l Z a0 hw n0 h0 s c X0 Es gs Fv Fc) (by decide) (by decide) rfl (lenOf pd_11 rfl) rfl (Nat.le_of_ble_eq_true rfl) d2_6 rfl (by decide) (by decide) ?_
  rintro _ h1 ⟨rfl, K2, Q2⟩
  show RnS w l _ n0 _ Z EL1 [s] 9 #[.val (.ref s), .val (.ref c)] [] h1 4 8
  exact RnS.retV K hEL rfl d2_9 (by decide) (by decide) ⟨rfl, K2, Q2⟩
theorem d1_4 : decode method_2_code 4 = .ok (.new 7, 3) := by decide +kernel
theorem d1_7 : decode method_2_code 7 = .ok (.dup, 1) := by decide +kernel
theorem d1_8 : decode method_2_code 8 = .ok (.iconst 0, 1) := by decide +kernel
theorem d1_9 : decode method_2_code 9 = .ok (.newarray .char, 2) := by decide +kernel
theorem d1_11 : decode method_2_code 11 = .ok (.invokespecial 9, 3) := by decide +kernel
theorem d1_14 : decode method_2_code 14 = .ok (.areturn, 1) := by decide +kernel
theorem pn_m_dr0 : plainName "com/example/ballast/ballast/ColumnOrNonePinLaw" = true := by first | (simp [plainName, overriddenIn]; done) | decide +kernel
set_option maxRecDepth 65536 in
set_option maxHeartbeats 40000000 in
theorem m_dr0 (l : Launch) (Z : State) (a0 : Array Value) (hw : ∀ d ∈ tables_1, d.before a0 Z = true) (n0 : Nat) (h0 : Heap) (x0 x1 x2 : Int32) (X0 : Old Z n0 h0) :
    MetS l Z EL1 (⟨"com/example/ballast/ballast/ColumnOrNonePinLaw", "draw", "(ICCC)Ljava/lang/String;"⟩ : MethodName) method_2_code 4 (some (.object "java/lang/String")) ({ frames := 3, cells := 6, slots := 12, locals := 46 } : Room) n0 [] [] #[(.int (0 : Int32)), (.int x0), (.int x1), (.int x2)] h0 (fun r h => ∃ s v k, r = some (.ref s) ∧ Keep h0 h [] ∧ Exa Z h s "java/lang/String" ∧ Fld Z h s "java/lang/String" "coder" "B" (.int (0 : Int32)) ∧ Fld Z h s "java/lang/String" "value" "[B" (.ref v) ∧ Arv Z h v k .byte (0 : Int32) [] (.int (0 : Int32))) := by
  refine MetS.intro (Ls := #[.val (.int (0 : Int32)), .val (.int x0), .val (.int x1), .val (.int x2)]) (plainFor_of_name pn_m_dr0) hw (fun m => by first | rfl | (simp [entryFrame, mkF, argsToLocals, Value.category]; done)) ?_
  intro w K0
  have hEL := own_EW hw
  have wS := own_wS hw
  have K : Cx w Z a0 "com/example/ballast/ballast/ColumnOrNonePinLaw" method_2_code 4 (some (.object "java/lang/String")) "draw" := K0
  have K1 := Keep.refl h0 []
  refine RnS.lift (fun vm0 hs r => have K := K.on hs; Rn.iloadN K (q := 1) d1_0 rfl rfl r) ?_
  refine RnS.lift (fun vm0 hs r => have K := K.on hs; Rn.ifN K (q := 4) d1_1 (XT.i0_ne_f rfl) rfl r) ?_
  refine RnS.newO K (q := 7) (List.mem_of_getElem? (i := 4) rfl) (List.mem_of_getElem? (i := 5) rfl) (List.mem_of_getElem? (i := 6) rfl) (by decide) (by decide) d1_4 rfl ?_
  intro b1 h2 gb1_ X3 A_b1 D4
  have g_b1 : n0 ≤ b1 := by rw [gb1_]; exact X0.1 ▸ X0.2.1
  have sz_b1 : h0.size ≤ b1 := by rw [gb1_]; exact K1.1
  have f5 := X0.ext X3
  have f6 := K1.ext X3
  have f7 : Fld Z h2 b1 "java/lang/String" "value" "[B" .null := D4 (Or.inr (K.hw _ (List.mem_of_getElem? (i := 20) rfl))) (ty := (.array .byte)) (by decide)
  have f8 : Fld Z h2 b1 "java/lang/String" "coder" "B" (.int (0 : Int32)) := D4 (Or.inr (K.hw _ (List.mem_of_getElem? (i := 21) rfl))) (ty := .byte) (by decide)
  show RnS w l _ n0 _ Z EL1 [b1] 7 #[.val (.int (0 : Int32)), .val (.int x0), .val (.int x1), .val (.int x2)] [(.ref b1)] h2 1 4
  refine RnS.lift (fun vm0 hs r => have K := K.on hs; Rn.dup K (q := 8) d1_7 rfl rfl r) ?_
  refine RnS.lift (fun vm0 hs r => have K := K.on hs; Rn.iconst K (q := 9) (0 : Int32) d1_8 rfl rfl r) ?_
  refine RnS.newP K (q := 11) (cap := 0) (List.mem_of_getElem? (i := 7) rfl) (by decide) (by decide) (by decide) (by decide) (by decide) (ad := "[C") (by decide) d1_9 rfl ?_
  intro b9 h10 k12 gb9_ X11 A_b9 EA_b9
  have ne_b1_b9 : b1 ≠ b9 := fun e => absurd A_b1.lt (by rw [e, gb9_]; exact Nat.lt_irrefl _)
  have g_b9 : n0 ≤ b9 := by rw [gb9_]; exact f5.1 ▸ f5.2.1
  have sz_b9 : h0.size ≤ b9 := by rw [gb9_]; exact f6.1
  have f13 := f5.ext X11
  have f14 := f6.ext X11
  have f15 := A_b1.ext X11
  have f16 := f7.ext X11
  have f17 := f8.ext X11
  show RnS w l _ n0 _ Z EL1 [b9, b1] 11 #[.val (.int (0 : Int32)), .val (.int x0), .val (.int x1), .val (.int x2)] [(.ref b9), (.ref b1), (.ref b1)] h10 2 4
  refine RnS.specS K hEL (q := 14) (W := 1) (y := (⟨"java/lang/String", "<init>", "([C)V"⟩ : MethodName)) (b := b1) (argsL := [(.ref b9)]) (rest := [(.ref b1)]) rfl (List.mem_of_getElem? (i := 8) rfl) (List.mem_of_getElem? (i := 9) rfl) (List.mem_of_getElem? (i := 10) rfl) (List.mem_of_getElem? (i := 6) rfl) (by decide) (by simp) (m_ic0 l Z a0 hw n0 h10 b1 b9 k12 f13 f15 g_b1 f16 f17 A_b9) (by decide) (by decide) rfl (lenOf pd_12 rfl) rfl (Nat.le_of_ble_eq_true rfl) d1_11 rfl (by decide) (by decide) ?_
  rintro _ h18 ⟨rfl, K19, v, k, F20, F21, A22⟩
  have f23 := f13.keep K19 (allS g_b1 all0)
  have f24 := f14.trans K19 (allS (Or.inr sz_b1) all0)
  have f25 := f15.keep K19
  have f26 := A_b9.keep K19 (ninS (Ne.symm ne_b1_b9) nin0)
  have f27 := EA_b9.keep K19
  show RnS w l _ n0 _ Z EL1 [b9, b1] 14 #[.val (.int (0 : Int32)), .val (.int x0), .val (.int x1), .val (.int x2)] [(.ref b1)] h18 6 12
  exact RnS.retA K hEL (.object "java/lang/String") rfl rfl rfl d1_14 (by decide) (by decide) ⟨_, _, _, rfl, f24, f25, F21, F20, A22⟩
theorem pn_m_law : plainName "com/example/ballast/ballast/ColumnOrNonePinLaw" = true := by first | (simp [plainName, overriddenIn]; done) | decide +kernel
set_option maxRecDepth 65536 in
set_option maxHeartbeats 40000000 in
theorem m_law (l : Launch) (Z : State) (a0 : Array Value) (hw : ∀ d ∈ tables_1, d.before a0 Z = true) (n0 : Nat) (h0 : Heap) (p1 p2 p3 p4 : Int32) (fv : Value) (hfv : fv.isRef = true) (cst : Int32) (X0 : Old Z n0 h0) (SC : Sta Z Z.heap "java/lang/String" "COMPACT_STRINGS" "Z" (.int cst)) (hcs : ¬ cst = 0) (SQ : Sta Z Z.heap "jdk/internal/util/Preconditions" "SIOOBE_FORMATTER" "Ljava/util/function/BiFunction;" fv) :
    MetS l Z EL1 x code maxLocals ret room_1 n0 tables_1 [] #[(.int p1), (.int p2), (.int p3), (.int p4)] h0 (fun v _ => v = some (.int (1 : Int32))) := by
  refine MetS.intro (Ls := #[.val (.int p1), .val (.int p2), .val (.int p3), .val (.int p4), .unset, .unset, .unset, .unset, .unset, .unset]) (plainFor_of_name pn_m_law) hw (fun m => by first | rfl | (simp [entryFrame, mkF, argsToLocals, Value.category, maxLocals]; done)) ?_
  intro w K0
  have hEL := own_EW hw
  have wS := own_wS hw
  have K : Cx w Z a0 "com/example/ballast/ballast/ColumnOrNonePinLaw" code 10 (some .boolean) "law" := K0
  refine RnS.lift (fun vm0 hs r => have K := K.on hs; Rn.iloadN K (q := 1) at_0 rfl rfl r) ?_
  refine RnS.lift (fun vm0 hs r => have K := K.on hs; Rn.iconst K (q := 2) (3 : Int32) at_1 rfl rfl r) ?_
  refine RnS.lift (fun vm0 hs r => have K := K.on hs; Rn.iand K (q := 3) at_2 rfl r) ?_
  refine RnS.lift (fun vm0 hs r => have K := K.on hs; Rn.istore K (q := 5) (Ls' := #[.val (.int p1), .val (.int p2), .val (.int p3), .val (.int p4), .val (.int (p1 &&& (3 : Int32))), .unset, .unset, .unset, .unset, .unset]) at_3 rfl rfl r) ?_
  rcases own_m3 p1 with e | e | e | e
  · rw [e]
    show RnS w l _ n0 _ Z EL1 [] 5 #[.val (.int p1), .val (.int p2), .val (.int p3), .val (.int p4), .val (.int (0 : Int32)), .unset, .unset, .unset, .unset, .unset] [] h0 0 0
    refine RnS.lift (fun vm0 hs r => have K := K.on hs; Rn.iloadN K (q := 6) at_5 rfl rfl r) ?_
    refine RnS.lift (fun vm0 hs r => have K := K.on hs; Rn.sipush K (q := 9) (255 : Int32) at_6 rfl rfl r) ?_
    refine RnS.lift (fun vm0 hs r => have K := K.on hs; Rn.iand K (q := 10) at_9 rfl r) ?_
    refine RnS.lift (fun vm0 hs r => have K := K.on hs; Rn.i2c K (q := 11) at_10 rfl r) ?_
    refine RnS.lift (fun vm0 hs r => have K := K.on hs; Rn.istore K (q := 13) (Ls' := #[.val (.int p1), .val (.int p2), .val (.int p3), .val (.int p4), .val (.int (0 : Int32)), .val (.int (p2 &&& (255 : Int32)).toUInt32.toUInt16.toUInt32.toInt32), .unset, .unset, .unset, .unset]) at_11 rfl rfl r) ?_
    refine RnS.lift (fun vm0 hs r => have K := K.on hs; Rn.iloadN K (q := 14) at_13 rfl rfl r) ?_
    refine RnS.lift (fun vm0 hs r => have K := K.on hs; Rn.sipush K (q := 17) (255 : Int32) at_14 rfl rfl r) ?_
    refine RnS.lift (fun vm0 hs r => have K := K.on hs; Rn.iand K (q := 18) at_17 rfl r) ?_
    refine RnS.lift (fun vm0 hs r => have K := K.on hs; Rn.i2c K (q := 19) at_18 rfl r) ?_
    refine RnS.lift (fun vm0 hs r => have K := K.on hs; Rn.istore K (q := 21) (Ls' := #[.val (.int p1), .val (.int p2), .val (.int p3), .val (.int p4), .val (.int (0 : Int32)), .val (.int (p2 &&& (255 : Int32)).toUInt32.toUInt16.toUInt32.toInt32), .val (.int (p3 &&& (255 : Int32)).toUInt32.toUInt16.toUInt32.toInt32), .unset, .unset, .unset]) at_19 rfl rfl r) ?_
    refine RnS.lift (fun vm0 hs r => have K := K.on hs; Rn.iloadN K (q := 22) at_21 rfl rfl r) ?_
    refine RnS.lift (fun vm0 hs r => have K := K.on hs; Rn.sipush K (q := 25) (255 : Int32) at_22 rfl rfl r) ?_
    refine RnS.lift (fun vm0 hs r => have K := K.on hs; Rn.iand K (q := 26) at_25 rfl r) ?_
    refine RnS.lift (fun vm0 hs r => have K := K.on hs; Rn.i2c K (q := 27) at_26 rfl r) ?_
    refine RnS.lift (fun vm0 hs r => have K := K.on hs; Rn.istore K (q := 29) (Ls' := #[.val (.int p1), .val (.int p2), .val (.int p3), .val (.int p4), .val (.int (0 : Int32)), .val (.int (p2 &&& (255 : Int32)).toUInt32.toUInt16.toUInt32.toInt32), .val (.int (p3 &&& (255 : Int32)).toUInt32.toUInt16.toUInt32.toInt32), .val (.int (p4 &&& (255 : Int32)).toUInt32.toUInt16.toUInt32.toInt32), .unset, .unset]) at_27 rfl rfl r) ?_
    refine RnS.lift (fun vm0 hs r => have K := K.on hs; Rn.iload K (q := 31) at_29 rfl rfl r) ?_
    refine RnS.lift (fun vm0 hs r => have K := K.on hs; Rn.iload K (q := 33) at_31 rfl rfl r) ?_
    refine RnS.lift (fun vm0 hs r => have K := K.on hs; Rn.iload K (q := 35) at_33 rfl rfl r) ?_
    refine RnS.lift (fun vm0 hs r => have K := K.on hs; Rn.iload K (q := 37) at_35 rfl rfl r) ?_
    refine RnS.statS K hEL (q := 40) (W := 0) (y := (⟨"com/example/ballast/ballast/ColumnOrNonePinLaw", "draw", "(ICCC)Ljava/lang/String;"⟩ : MethodName)) (argsL := [(.int (0 : Int32)), (.int (p2 &&& (255 : Int32)).toUInt32.toUInt16.toUInt32.toInt32), (.int (p3 &&& (255 : Int32)).toUInt32.toUInt16.toUInt32.toInt32), (.int (p4 &&& (255 : Int32)).toUInt32.toUInt16.toUInt32.toInt32)]) (rest := []) (List.mem_of_getElem? (i := 0) rfl) (List.mem_of_getElem? (i := 1) rfl) (List.mem_of_getElem? (i := 3) rfl) (List.mem_of_getElem? (i := 2) rfl) (by decide) (by simp) (m_dr0 l Z a0 hw n0 h0 ((p2 &&& (255 : Int32)).toUInt32.toUInt16.toUInt32.toInt32) ((p3 &&& (255 : Int32)).toUInt32.toUInt16.toUInt32.toInt32) ((p4 &&& (255 : Int32)).toUInt32.toUInt16.toUInt32.toInt32) X0) (by decide) (by decide) rfl (lenOf pd_14 rfl) rfl (Nat.le_of_ble_eq_true rfl) at_37 rfl (by decide) (by decide) ?_
    rintro _ h1 ⟨s, v, k, rfl, K2, E3, F4, F5, A6⟩
    have f7 := X0.keep K2 all0
    show RnS w l _ n0 _ Z EL1 [] 40 #[.val (.int p1), .val (.int p2), .val (.int p3), .val (.int p4), .val (.int (0 : Int32)), .val (.int (p2 &&& (255 : Int32)).toUInt32.toUInt16.toUInt32.toInt32), .val (.int (p3 &&& (255 : Int32)).toUInt32.toUInt16.toUInt32.toInt32), .val (.int (p4 &&& (255 : Int32)).toUInt32.toUInt16.toUInt32.toInt32), .unset, .unset] [(.ref s)] h1 6 12
    refine RnS.lift (fun vm0 hs r => have K := K.on hs; Rn.astore K (q := 42) (Ls' := #[.val (.int p1), .val (.int p2), .val (.int p3), .val (.int p4), .val (.int (0 : Int32)), .val (.int (p2 &&& (255 : Int32)).toUInt32.toUInt16.toUInt32.toInt32), .val (.int (p3 &&& (255 : Int32)).toUInt32.toUInt16.toUInt32.toInt32), .val (.int (p4 &&& (255 : Int32)).toUInt32.toUInt16.toUInt32.toInt32), .val (.ref s), .unset]) at_40 rfl rfl rfl r) ?_
    refine RnS.lift (fun vm0 hs r => have K := K.on hs; Rn.aload K (q := 44) at_42 rfl rfl rfl r) ?_
    refine RnS.liftC (fun vm0 hs r => have K := K.on hs; Rn.stat K (q := 47) (W := 0) (y := (⟨"com/example/ballast/ballast/Column", "orNone", "(Ljava/lang/String;)Ljava/lang/String;"⟩ : MethodName)) (argsL := [(.ref s)]) (rest := []) (List.mem_of_getElem? (i := 26) rfl) (List.mem_of_getElem? (i := 27) rfl) (List.mem_of_getElem? (i := 29) rfl) (List.mem_of_getElem? (i := 28) rfl) (by decide) (m_orn0 l Z a0 hw n0 h1 s v k cst  f7 SC hcs E3 F4 F5 A6) (by decide) (by decide) rfl (lenOf pd_15 rfl) rfl (Nat.le_of_ble_eq_true rfl) at_44 rfl (by decide) (by decide) r) (by rintro _ _ ⟨rfl, rfl⟩; exact own_kp0) ?_
    rintro _ _ ⟨rfl, rfl⟩
    show RnS w l _ n0 _ Z EL1 [] 47 #[.val (.int p1), .val (.int p2), .val (.int p3), .val (.int p4), .val (.int (0 : Int32)), .val (.int (p2 &&& (255 : Int32)).toUInt32.toUInt16.toUInt32.toInt32), .val (.int (p3 &&& (255 : Int32)).toUInt32.toUInt16.toUInt32.toInt32), .val (.int (p4 &&& (255 : Int32)).toUInt32.toUInt16.toUInt32.toInt32), .val (.ref s), .unset] [.null] h1 6 12
    refine RnS.lift (fun vm0 hs r => have K := K.on hs; Rn.astore K (q := 49) (Ls' := #[.val (.int p1), .val (.int p2), .val (.int p3), .val (.int p4), .val (.int (0 : Int32)), .val (.int (p2 &&& (255 : Int32)).toUInt32.toUInt16.toUInt32.toInt32), .val (.int (p3 &&& (255 : Int32)).toUInt32.toUInt16.toUInt32.toInt32), .val (.int (p4 &&& (255 : Int32)).toUInt32.toUInt16.toUInt32.toInt32), .val (.ref s), .val .null]) at_47 rfl rfl rfl r) ?_
    refine RnS.lift (fun vm0 hs r => have K := K.on hs; Rn.iload K (q := 51) at_49 rfl rfl r) ?_
    refine RnS.lift (fun vm0 hs r => have K := K.on hs; Rn.ifN K (q := 54) at_51 (XT.i0_ne_f rfl) rfl r) ?_
    refine RnS.lift (fun vm0 hs r => have K := K.on hs; Rn.aload K (q := 56) at_54 rfl rfl rfl r) ?_
    refine RnS.lift (fun vm0 hs r => have K := K.on hs; Rn.nonnullN K (q := 59) at_56 rfl r) ?_
    refine RnS.lift (fun vm0 hs r => have K := K.on hs; Rn.iconst K (q := 60) (1 : Int32) at_59 rfl rfl r) ?_
    refine RnS.lift (fun vm0 hs r => have K := K.on hs; Rn.goto K (q := 64) at_60 (by decide) (by decide) r) ?_
    exact RnS.retN K hEL .boolean rfl (by simp) at_64 (by decide) (by decide) rfl
  · rw [e]
    show RnS w l _ n0 _ Z EL1 [] 5 #[.val (.int p1), .val (.int p2), .val (.int p3), .val (.int p4), .val (.int (1 : Int32)), .unset, .unset, .unset, .unset, .unset] [] h0 0 0
    refine RnS.lift (fun vm0 hs r => have K := K.on hs; Rn.iloadN K (q := 6) at_5 rfl rfl r) ?_
    refine RnS.lift (fun vm0 hs r => have K := K.on hs; Rn.sipush K (q := 9) (255 : Int32) at_6 rfl rfl r) ?_
    refine RnS.lift (fun vm0 hs r => have K := K.on hs; Rn.iand K (q := 10) at_9 rfl r) ?_
    refine RnS.lift (fun vm0 hs r => have K := K.on hs; Rn.i2c K (q := 11) at_10 rfl r) ?_
    refine RnS.lift (fun vm0 hs r => have K := K.on hs; Rn.istore K (q := 13) (Ls' := #[.val (.int p1), .val (.int p2), .val (.int p3), .val (.int p4), .val (.int (1 : Int32)), .val (.int (p2 &&& (255 : Int32)).toUInt32.toUInt16.toUInt32.toInt32), .unset, .unset, .unset, .unset]) at_11 rfl rfl r) ?_
    refine RnS.lift (fun vm0 hs r => have K := K.on hs; Rn.iloadN K (q := 14) at_13 rfl rfl r) ?_
    refine RnS.lift (fun vm0 hs r => have K := K.on hs; Rn.sipush K (q := 17) (255 : Int32) at_14 rfl rfl r) ?_
    refine RnS.lift (fun vm0 hs r => have K := K.on hs; Rn.iand K (q := 18) at_17 rfl r) ?_
    refine RnS.lift (fun vm0 hs r => have K := K.on hs; Rn.i2c K (q := 19) at_18 rfl r) ?_
    refine RnS.lift (fun vm0 hs r => have K := K.on hs; Rn.istore K (q := 21) (Ls' := #[.val (.int p1), .val (.int p2), .val (.int p3), .val (.int p4), .val (.int (1 : Int32)), .val (.int (p2 &&& (255 : Int32)).toUInt32.toUInt16.toUInt32.toInt32), .val (.int (p3 &&& (255 : Int32)).toUInt32.toUInt16.toUInt32.toInt32), .unset, .unset, .unset]) at_19 rfl rfl r) ?_
    refine RnS.lift (fun vm0 hs r => have K := K.on hs; Rn.iloadN K (q := 22) at_21 rfl rfl r) ?_
    refine RnS.lift (fun vm0 hs r => have K := K.on hs; Rn.sipush K (q := 25) (255 : Int32) at_22 rfl rfl r) ?_
    refine RnS.lift (fun vm0 hs r => have K := K.on hs; Rn.iand K (q := 26) at_25 rfl r) ?_
    refine RnS.lift (fun vm0 hs r => have K := K.on hs; Rn.i2c K (q := 27) at_26 rfl r) ?_
    refine RnS.lift (fun vm0 hs r => have K := K.on hs; Rn.istore K (q := 29) (Ls' := #[.val (.int p1), .val (.int p2), .val (.int p3), .val (.int p4), .val (.int (1 : Int32)), .val (.int (p2 &&& (255 : Int32)).toUInt32.toUInt16.toUInt32.toInt32), .val (.int (p3 &&& (255 : Int32)).toUInt32.toUInt16.toUInt32.toInt32), .val (.int (p4 &&& (255 : Int32)).toUInt32.toUInt16.toUInt32.toInt32), .unset, .unset]) at_27 rfl rfl r) ?_
    refine RnS.lift (fun vm0 hs r => have K := K.on hs; Rn.iload K (q := 31) at_29 rfl rfl r) ?_
    refine RnS.lift (fun vm0 hs r => have K := K.on hs; Rn.iload K (q := 33) at_31 rfl rfl r) ?_
    refine RnS.lift (fun vm0 hs r => have K := K.on hs; Rn.iload K (q := 35) at_33 rfl rfl r) ?_
    refine RnS.lift (fun vm0 hs r => have K := K.on hs; Rn.iload K (q := 37) at_35 rfl rfl r) ?_
    refine RnS.liftC (fun vm0 hs r => have K := K.on hs; Rn.stat K (q := 40) (W := 0) (y := (⟨"com/example/ballast/ballast/ColumnOrNonePinLaw", "draw", "(ICCC)Ljava/lang/String;"⟩ : MethodName)) (argsL := [(.int (1 : Int32)), (.int (p2 &&& (255 : Int32)).toUInt32.toUInt16.toUInt32.toInt32), (.int (p3 &&& (255 : Int32)).toUInt32.toUInt16.toUInt32.toInt32), (.int (p4 &&& (255 : Int32)).toUInt32.toUInt16.toUInt32.toInt32)]) (rest := []) (List.mem_of_getElem? (i := 0) rfl) (List.mem_of_getElem? (i := 1) rfl) (List.mem_of_getElem? (i := 3) rfl) (List.mem_of_getElem? (i := 2) rfl) (by decide) (m_dr1 l Z a0 hw n0 h0 ((p2 &&& (255 : Int32)).toUInt32.toUInt16.toUInt32.toInt32) ((p3 &&& (255 : Int32)).toUInt32.toUInt16.toUInt32.toInt32) ((p4 &&& (255 : Int32)).toUInt32.toUInt16.toUInt32.toInt32) cst X0 SC hcs (own_ch p2)) (by decide) (by decide) rfl (lenOf pd_14 rfl) rfl (Nat.le_of_ble_eq_true rfl) at_37 rfl (by decide) (by decide) r) (by rintro _ _ ⟨s, v, k, rfl, Kp, -⟩; exact own_kp1 Kp) ?_
    rintro _ h8 ⟨s, v, k, rfl, K9, E10, F11, F12, A13⟩
    have f14 := X0.keep K9 all0
    show RnS w l _ n0 _ Z EL1 [] 40 #[.val (.int p1), .val (.int p2), .val (.int p3), .val (.int p4), .val (.int (1 : Int32)), .val (.int (p2 &&& (255 : Int32)).toUInt32.toUInt16.toUInt32.toInt32), .val (.int (p3 &&& (255 : Int32)).toUInt32.toUInt16.toUInt32.toInt32), .val (.int (p4 &&& (255 : Int32)).toUInt32.toUInt16.toUInt32.toInt32), .unset, .unset] [(.ref s)] h8 2 5
    refine RnS.lift (fun vm0 hs r => have K := K.on hs; Rn.astore K (q := 42) (Ls' := #[.val (.int p1), .val (.int p2), .val (.int p3), .val (.int p4), .val (.int (1 : Int32)), .val (.int (p2 &&& (255 : Int32)).toUInt32.toUInt16.toUInt32.toInt32), .val (.int (p3 &&& (255 : Int32)).toUInt32.toUInt16.toUInt32.toInt32), .val (.int (p4 &&& (255 : Int32)).toUInt32.toUInt16.toUInt32.toInt32), .val (.ref s), .unset]) at_40 rfl rfl rfl r) ?_
    refine RnS.lift (fun vm0 hs r => have K := K.on hs; Rn.aload K (q := 44) at_42 rfl rfl rfl r) ?_
    refine RnS.liftC (fun vm0 hs r => have K := K.on hs; Rn.stat K (q := 47) (W := 0) (y := (⟨"com/example/ballast/ballast/Column", "orNone", "(Ljava/lang/String;)Ljava/lang/String;"⟩ : MethodName)) (argsL := [(.ref s)]) (rest := []) (List.mem_of_getElem? (i := 26) rfl) (List.mem_of_getElem? (i := 27) rfl) (List.mem_of_getElem? (i := 29) rfl) (List.mem_of_getElem? (i := 28) rfl) (by decide) (m_orn1 l Z a0 hw n0 h8 s v k cst (nar .byte ((p2 &&& (255 : Int32)).toUInt32.toUInt16.toUInt32.toInt32).toInt8.toInt32) f14 SC hcs E10 F11 F12 A13) (by decide) (by decide) rfl (lenOf pd_15 rfl) rfl (Nat.le_of_ble_eq_true rfl) at_44 rfl (by decide) (by decide) r) (by rintro _ _ ⟨rfl, rfl⟩; exact own_kp0) ?_
    rintro _ _ ⟨rfl, rfl⟩
    show RnS w l _ n0 _ Z EL1 [] 47 #[.val (.int p1), .val (.int p2), .val (.int p3), .val (.int p4), .val (.int (1 : Int32)), .val (.int (p2 &&& (255 : Int32)).toUInt32.toUInt16.toUInt32.toInt32), .val (.int (p3 &&& (255 : Int32)).toUInt32.toUInt16.toUInt32.toInt32), .val (.int (p4 &&& (255 : Int32)).toUInt32.toUInt16.toUInt32.toInt32), .val (.ref s), .unset] [(.ref s)] h8 2 5
    refine RnS.lift (fun vm0 hs r => have K := K.on hs; Rn.astore K (q := 49) (Ls' := #[.val (.int p1), .val (.int p2), .val (.int p3), .val (.int p4), .val (.int (1 : Int32)), .val (.int (p2 &&& (255 : Int32)).toUInt32.toUInt16.toUInt32.toInt32), .val (.int (p3 &&& (255 : Int32)).toUInt32.toUInt16.toUInt32.toInt32), .val (.int (p4 &&& (255 : Int32)).toUInt32.toUInt16.toUInt32.toInt32), .val (.ref s), .val (.ref s)]) at_47 rfl rfl rfl r) ?_
    refine RnS.lift (fun vm0 hs r => have K := K.on hs; Rn.iload K (q := 51) at_49 rfl rfl r) ?_
    refine RnS.lift (fun vm0 hs r => have K := K.on hs; Rn.ifY K (q := 65) at_51 (XT.i0_ne_t (by decide)) (by decide) (by decide) r) ?_
    refine RnS.lift (fun vm0 hs r => have K := K.on hs; Rn.aload K (q := 67) at_65 rfl rfl rfl r) ?_
    refine RnS.lift (fun vm0 hs r => have K := K.on hs; Rn.nullN K (q := 70) at_67 rfl r) ?_
    refine RnS.lift (fun vm0 hs r => have K := K.on hs; Rn.aload K (q := 72) at_70 rfl rfl rfl r) ?_
    refine RnS.liftC (fun vm0 hs r => have K := K.on hs; Rn.virt K (q := 75) (W := 0) (y := (⟨"java/lang/String", "length", "()I"⟩ : MethodName)) (z := (⟨"java/lang/String", "length", "()I"⟩ : MethodName)) (b := s) (argsL := []) (rest := []) (List.mem_of_getElem? (i := 46) rfl) (List.mem_of_getElem? (i := 47) rfl) (nfs K (List.mem_of_getElem? (i := 49) rfl)) (List.mem_of_getElem? (i := 49) rfl) (List.mem_of_getElem? (i := 48) rfl) (List.mem_of_getElem? (i := 50) rfl) (List.mem_of_getElem? (i := 6) rfl) (by decide) (m_len1 l Z a0 hw n0 h8 s v k cst (nar .byte ((p2 &&& (255 : Int32)).toUInt32.toUInt16.toUInt32.toInt32).toInt8.toInt32) f14 SC hcs E10 F11 F12 A13) E10 (by decide) (by decide) rfl (lenOf pd_16 rfl) rfl (Nat.le_of_ble_eq_true rfl) at_72 rfl (by decide) (by decide) r) (by rintro _ _ ⟨rfl, rfl⟩; exact own_kp0) ?_
    rintro _ _ ⟨rfl, rfl⟩
    show RnS w l _ n0 _ Z EL1 [] 75 #[.val (.int p1), .val (.int p2), .val (.int p3), .val (.int p4), .val (.int (1 : Int32)), .val (.int (p2 &&& (255 : Int32)).toUInt32.toUInt16.toUInt32.toInt32), .val (.int (p3 &&& (255 : Int32)).toUInt32.toUInt16.toUInt32.toInt32), .val (.int (p4 &&& (255 : Int32)).toUInt32.toUInt16.toUInt32.toInt32), .val (.ref s), .val (.ref s)] [(.int (1 : Int32))] h8 2 5
    refine RnS.lift (fun vm0 hs r => have K := K.on hs; Rn.iload K (q := 77) at_75 rfl rfl r) ?_
    refine RnS.lift (fun vm0 hs r => have K := K.on hs; Rn.icN K (q := 80) at_77 (XT.ii_ne_f rfl) rfl r) ?_
    refine RnS.lift (fun vm0 hs r => have K := K.on hs; Rn.aload K (q := 82) at_80 rfl rfl rfl r) ?_
    refine RnS.lift (fun vm0 hs r => have K := K.on hs; Rn.aload K (q := 84) at_82 rfl rfl rfl r) ?_
    refine RnS.liftC (fun vm0 hs r => have K := K.on hs; Rn.virt K (q := 87) (W := 0) (y := (⟨"java/lang/String", "equals", "(Ljava/lang/Object;)Z"⟩ : MethodName)) (z := (⟨"java/lang/String", "equals", "(Ljava/lang/Object;)Z"⟩ : MethodName)) (b := s) (argsL := [(.ref s)]) (rest := []) (List.mem_of_getElem? (i := 56) rfl) (List.mem_of_getElem? (i := 57) rfl) (nfs K (List.mem_of_getElem? (i := 59) rfl)) (List.mem_of_getElem? (i := 59) rfl) (List.mem_of_getElem? (i := 58) rfl) (List.mem_of_getElem? (i := 60) rfl) (List.mem_of_getElem? (i := 6) rfl) (by decide) (m_eq l Z a0 hw n0 h8 s f14) E10 (by decide) (by decide) rfl (lenOf pd_17 rfl) rfl (Nat.le_of_ble_eq_true rfl) at_84 rfl (by decide) (by decide) r) (by rintro _ _ ⟨rfl, rfl⟩; exact own_kp0) ?_
    rintro _ _ ⟨rfl, rfl⟩
    show RnS w l _ n0 _ Z EL1 [] 87 #[.val (.int p1), .val (.int p2), .val (.int p3), .val (.int p4), .val (.int (1 : Int32)), .val (.int (p2 &&& (255 : Int32)).toUInt32.toUInt16.toUInt32.toInt32), .val (.int (p3 &&& (255 : Int32)).toUInt32.toUInt16.toUInt32.toInt32), .val (.int (p4 &&& (255 : Int32)).toUInt32.toUInt16.toUInt32.toInt32), .val (.ref s), .val (.ref s)] [(.int (1 : Int32))] h8 2 5
    refine RnS.lift (fun vm0 hs r => have K := K.on hs; Rn.ifN K (q := 90) at_87 (XT.i0_eq_f (by decide)) rfl r) ?_
    refine RnS.lift (fun vm0 hs r => have K := K.on hs; Rn.aload K (q := 92) at_90 rfl rfl rfl r) ?_
    refine RnS.lift (fun vm0 hs r => have K := K.on hs; Rn.iconst K (q := 93) (0 : Int32) at_92 rfl rfl r) ?_
    refine RnS.liftC (fun vm0 hs r => have K := K.on hs; Rn.virt K (q := 96) (W := 0) (y := (⟨"java/lang/String", "charAt", "(I)C"⟩ : MethodName)) (z := (⟨"java/lang/String", "charAt", "(I)C"⟩ : MethodName)) (b := s) (argsL := [(.int (0 : Int32))]) (rest := []) (List.mem_of_getElem? (i := 61) rfl) (List.mem_of_getElem? (i := 62) rfl) (nfs K (List.mem_of_getElem? (i := 64) rfl)) (List.mem_of_getElem? (i := 64) rfl) (List.mem_of_getElem? (i := 63) rfl) (List.mem_of_getElem? (i := 65) rfl) (List.mem_of_getElem? (i := 6) rfl) (by decide) (m_ch10 l Z a0 hw n0 h8 s v k cst (nar .byte ((p2 &&& (255 : Int32)).toUInt32.toUInt16.toUInt32.toInt32).toInt8.toInt32) fv hfv f14 SC hcs SQ E10 F11 F12 A13) E10 (by decide) (by decide) rfl (lenOf pd_18 rfl) rfl (Nat.le_of_ble_eq_true rfl) at_93 rfl (by decide) (by decide) r) (by rintro _ _ ⟨rfl, rfl⟩; exact own_kp0) ?_
    rintro _ _ ⟨rfl, rfl⟩
    show RnS w l _ n0 _ Z EL1 [] 96 #[.val (.int p1), .val (.int p2), .val (.int p3), .val (.int p4), .val (.int (1 : Int32)), .val (.int (p2 &&& (255 : Int32)).toUInt32.toUInt16.toUInt32.toInt32), .val (.int (p3 &&& (255 : Int32)).toUInt32.toUInt16.toUInt32.toInt32), .val (.int (p4 &&& (255 : Int32)).toUInt32.toUInt16.toUInt32.toInt32), .val (.ref s), .val (.ref s)] [(.int (nar .char (nar .char ((nar .byte ((p2 &&& (255 : Int32)).toUInt32.toUInt16.toUInt32.toInt32).toInt8.toInt32) &&& (255 : Int32)).toUInt32.toUInt16.toUInt32.toInt32)))] h8 2 5
    refine RnS.lift (fun vm0 hs r => have K := K.on hs; Rn.iload K (q := 98) at_96 rfl rfl r) ?_
    refine RnS.lift (fun vm0 hs r => have K := K.on hs; Rn.icN K (q := 101) at_98 (XT.ii_ne_f (own_c1 p2)) rfl r) ?_
    refine RnS.lift (fun vm0 hs r => have K := K.on hs; Rn.aload K (q := 103) at_101 rfl rfl rfl r) ?_
    refine RnS.lift (fun vm0 hs r => have K := K.on hs; Rn.iload K (q := 105) at_103 rfl rfl r) ?_
    refine RnS.lift (fun vm0 hs r => have K := K.on hs; Rn.iconst K (q := 106) (1 : Int32) at_105 rfl rfl r) ?_
    refine RnS.lift (fun vm0 hs r => have K := K.on hs; Rn.isub K (q := 107) at_106 rfl r) ?_
    show RnS w l _ n0 _ Z EL1 [] 107 #[.val (.int p1), .val (.int p2), .val (.int p3), .val (.int p4), .val (.int (1 : Int32)), .val (.int (p2 &&& (255 : Int32)).toUInt32.toUInt16.toUInt32.toInt32), .val (.int (p3 &&& (255 : Int32)).toUInt32.toUInt16.toUInt32.toInt32), .val (.int (p4 &&& (255 : Int32)).toUInt32.toUInt16.toUInt32.toInt32), .val (.ref s), .val (.ref s)] [(.int (0 : Int32)), (.ref s)] h8 2 5
    refine RnS.liftC (fun vm0 hs r => have K := K.on hs; Rn.virt K (q := 110) (W := 0) (y := (⟨"java/lang/String", "charAt", "(I)C"⟩ : MethodName)) (z := (⟨"java/lang/String", "charAt", "(I)C"⟩ : MethodName)) (b := s) (argsL := [(.int (0 : Int32))]) (rest := []) (List.mem_of_getElem? (i := 61) rfl) (List.mem_of_getElem? (i := 62) rfl) (nfs K (List.mem_of_getElem? (i := 64) rfl)) (List.mem_of_getElem? (i := 64) rfl) (List.mem_of_getElem? (i := 63) rfl) (List.mem_of_getElem? (i := 65) rfl) (List.mem_of_getElem? (i := 6) rfl) (by decide) (m_ch10 l Z a0 hw n0 h8 s v k cst (nar .byte ((p2 &&& (255 : Int32)).toUInt32.toUInt16.toUInt32.toInt32).toInt8.toInt32) fv hfv f14 SC hcs SQ E10 F11 F12 A13) E10 (by decide) (by decide) rfl (lenOf pd_18 rfl) rfl (Nat.le_of_ble_eq_true rfl) at_107 rfl (by decide) (by decide) r) (by rintro _ _ ⟨rfl, rfl⟩; exact own_kp0) ?_
    rintro _ _ ⟨rfl, rfl⟩
    show RnS w l _ n0 _ Z EL1 [] 110 #[.val (.int p1), .val (.int p2), .val (.int p3), .val (.int p4), .val (.int (1 : Int32)), .val (.int (p2 &&& (255 : Int32)).toUInt32.toUInt16.toUInt32.toInt32), .val (.int (p3 &&& (255 : Int32)).toUInt32.toUInt16.toUInt32.toInt32), .val (.int (p4 &&& (255 : Int32)).toUInt32.toUInt16.toUInt32.toInt32), .val (.ref s), .val (.ref s)] [(.int (nar .char (nar .char ((nar .byte ((p2 &&& (255 : Int32)).toUInt32.toUInt16.toUInt32.toInt32).toInt8.toInt32) &&& (255 : Int32)).toUInt32.toUInt16.toUInt32.toInt32)))] h8 2 5
    refine RnS.lift (fun vm0 hs r => have K := K.on hs; Rn.aload K (q := 112) at_110 rfl rfl rfl r) ?_
    refine RnS.lift (fun vm0 hs r => have K := K.on hs; Rn.iload K (q := 114) at_112 rfl rfl r) ?_
    refine RnS.lift (fun vm0 hs r => have K := K.on hs; Rn.iconst K (q := 115) (1 : Int32) at_114 rfl rfl r) ?_
    refine RnS.lift (fun vm0 hs r => have K := K.on hs; Rn.isub K (q := 116) at_115 rfl r) ?_
    show RnS w l _ n0 _ Z EL1 [] 116 #[.val (.int p1), .val (.int p2), .val (.int p3), .val (.int p4), .val (.int (1 : Int32)), .val (.int (p2 &&& (255 : Int32)).toUInt32.toUInt16.toUInt32.toInt32), .val (.int (p3 &&& (255 : Int32)).toUInt32.toUInt16.toUInt32.toInt32), .val (.int (p4 &&& (255 : Int32)).toUInt32.toUInt16.toUInt32.toInt32), .val (.ref s), .val (.ref s)] [(.int (0 : Int32)), (.ref s), (.int (nar .char (nar .char ((nar .byte ((p2 &&& (255 : Int32)).toUInt32.toUInt16.toUInt32.toInt32).toInt8.toInt32) &&& (255 : Int32)).toUInt32.toUInt16.toUInt32.toInt32)))] h8 2 5
    refine RnS.liftC (fun vm0 hs r => have K := K.on hs; Rn.virt K (q := 119) (W := 1) (y := (⟨"java/lang/String", "charAt", "(I)C"⟩ : MethodName)) (z := (⟨"java/lang/String", "charAt", "(I)C"⟩ : MethodName)) (b := s) (argsL := [(.int (0 : Int32))]) (rest := [(.int (nar .char (nar .char ((nar .byte ((p2 &&& (255 : Int32)).toUInt32.toUInt16.toUInt32.toInt32).toInt8.toInt32) &&& (255 : Int32)).toUInt32.toUInt16.toUInt32.toInt32)))]) (List.mem_of_getElem? (i := 61) rfl) (List.mem_of_getElem? (i := 62) rfl) (nfs K (List.mem_of_getElem? (i := 64) rfl)) (List.mem_of_getElem? (i := 64) rfl) (List.mem_of_getElem? (i := 63) rfl) (List.mem_of_getElem? (i := 65) rfl) (List.mem_of_getElem? (i := 6) rfl) (by decide) (m_ch10 l Z a0 hw n0 h8 s v k cst (nar .byte ((p2 &&& (255 : Int32)).toUInt32.toUInt16.toUInt32.toInt32).toInt8.toInt32) fv hfv f14 SC hcs SQ E10 F11 F12 A13) E10 (by decide) (by decide) rfl (lenOf pd_18 rfl) rfl (Nat.le_of_ble_eq_true rfl) at_116 rfl (by decide) (by decide) r) (by rintro _ _ ⟨rfl, rfl⟩; exact own_kp0) ?_
    rintro _ _ ⟨rfl, rfl⟩
    show RnS w l _ n0 _ Z EL1 [] 119 #[.val (.int p1), .val (.int p2), .val (.int p3), .val (.int p4), .val (.int (1 : Int32)), .val (.int (p2 &&& (255 : Int32)).toUInt32.toUInt16.toUInt32.toInt32), .val (.int (p3 &&& (255 : Int32)).toUInt32.toUInt16.toUInt32.toInt32), .val (.int (p4 &&& (255 : Int32)).toUInt32.toUInt16.toUInt32.toInt32), .val (.ref s), .val (.ref s)] [(.int (nar .char (nar .char ((nar .byte ((p2 &&& (255 : Int32)).toUInt32.toUInt16.toUInt32.toInt32).toInt8.toInt32) &&& (255 : Int32)).toUInt32.toUInt16.toUInt32.toInt32))), (.int (nar .char (nar .char ((nar .byte ((p2 &&& (255 : Int32)).toUInt32.toUInt16.toUInt32.toInt32).toInt8.toInt32) &&& (255 : Int32)).toUInt32.toUInt16.toUInt32.toInt32)))] h8 2 5
    refine RnS.lift (fun vm0 hs r => have K := K.on hs; Rn.icN K (q := 122) at_119 (XT.ii_ne_f rfl) rfl r) ?_
    refine RnS.lift (fun vm0 hs r => have K := K.on hs; Rn.iconst K (q := 123) (1 : Int32) at_122 rfl rfl r) ?_
    refine RnS.lift (fun vm0 hs r => have K := K.on hs; Rn.goto K (q := 127) at_123 (by decide) (by decide) r) ?_
    exact RnS.retN K hEL .boolean rfl (by simp) at_127 (by decide) (by decide) rfl
  · rw [e]
    show RnS w l _ n0 _ Z EL1 [] 5 #[.val (.int p1), .val (.int p2), .val (.int p3), .val (.int p4), .val (.int (2 : Int32)), .unset, .unset, .unset, .unset, .unset] [] h0 0 0
    refine RnS.lift (fun vm0 hs r => have K := K.on hs; Rn.iloadN K (q := 6) at_5 rfl rfl r) ?_
    refine RnS.lift (fun vm0 hs r => have K := K.on hs; Rn.sipush K (q := 9) (255 : Int32) at_6 rfl rfl r) ?_
    refine RnS.lift (fun vm0 hs r => have K := K.on hs; Rn.iand K (q := 10) at_9 rfl r) ?_
    refine RnS.lift (fun vm0 hs r => have K := K.on hs; Rn.i2c K (q := 11) at_10 rfl r) ?_
    refine RnS.lift (fun vm0 hs r => have K := K.on hs; Rn.istore K (q := 13) (Ls' := #[.val (.int p1), .val (.int p2), .val (.int p3), .val (.int p4), .val (.int (2 : Int32)), .val (.int (p2 &&& (255 : Int32)).toUInt32.toUInt16.toUInt32.toInt32), .unset, .unset, .unset, .unset]) at_11 rfl rfl r) ?_
    refine RnS.lift (fun vm0 hs r => have K := K.on hs; Rn.iloadN K (q := 14) at_13 rfl rfl r) ?_
    refine RnS.lift (fun vm0 hs r => have K := K.on hs; Rn.sipush K (q := 17) (255 : Int32) at_14 rfl rfl r) ?_
    refine RnS.lift (fun vm0 hs r => have K := K.on hs; Rn.iand K (q := 18) at_17 rfl r) ?_
    refine RnS.lift (fun vm0 hs r => have K := K.on hs; Rn.i2c K (q := 19) at_18 rfl r) ?_
    refine RnS.lift (fun vm0 hs r => have K := K.on hs; Rn.istore K (q := 21) (Ls' := #[.val (.int p1), .val (.int p2), .val (.int p3), .val (.int p4), .val (.int (2 : Int32)), .val (.int (p2 &&& (255 : Int32)).toUInt32.toUInt16.toUInt32.toInt32), .val (.int (p3 &&& (255 : Int32)).toUInt32.toUInt16.toUInt32.toInt32), .unset, .unset, .unset]) at_19 rfl rfl r) ?_
    refine RnS.lift (fun vm0 hs r => have K := K.on hs; Rn.iloadN K (q := 22) at_21 rfl rfl r) ?_
    refine RnS.lift (fun vm0 hs r => have K := K.on hs; Rn.sipush K (q := 25) (255 : Int32) at_22 rfl rfl r) ?_
    refine RnS.lift (fun vm0 hs r => have K := K.on hs; Rn.iand K (q := 26) at_25 rfl r) ?_
    refine RnS.lift (fun vm0 hs r => have K := K.on hs; Rn.i2c K (q := 27) at_26 rfl r) ?_
    refine RnS.lift (fun vm0 hs r => have K := K.on hs; Rn.istore K (q := 29) (Ls' := #[.val (.int p1), .val (.int p2), .val (.int p3), .val (.int p4), .val (.int (2 : Int32)), .val (.int (p2 &&& (255 : Int32)).toUInt32.toUInt16.toUInt32.toInt32), .val (.int (p3 &&& (255 : Int32)).toUInt32.toUInt16.toUInt32.toInt32), .val (.int (p4 &&& (255 : Int32)).toUInt32.toUInt16.toUInt32.toInt32), .unset, .unset]) at_27 rfl rfl r) ?_
    refine RnS.lift (fun vm0 hs r => have K := K.on hs; Rn.iload K (q := 31) at_29 rfl rfl r) ?_
    refine RnS.lift (fun vm0 hs r => have K := K.on hs; Rn.iload K (q := 33) at_31 rfl rfl r) ?_
    refine RnS.lift (fun vm0 hs r => have K := K.on hs; Rn.iload K (q := 35) at_33 rfl rfl r) ?_
    refine RnS.lift (fun vm0 hs r => have K := K.on hs; Rn.iload K (q := 37) at_35 rfl rfl r) ?_
    refine RnS.liftC (fun vm0 hs r => have K := K.on hs; Rn.stat K (q := 40) (W := 0) (y := (⟨"com/example/ballast/ballast/ColumnOrNonePinLaw", "draw", "(ICCC)Ljava/lang/String;"⟩ : MethodName)) (argsL := [(.int (2 : Int32)), (.int (p2 &&& (255 : Int32)).toUInt32.toUInt16.toUInt32.toInt32), (.int (p3 &&& (255 : Int32)).toUInt32.toUInt16.toUInt32.toInt32), (.int (p4 &&& (255 : Int32)).toUInt32.toUInt16.toUInt32.toInt32)]) (rest := []) (List.mem_of_getElem? (i := 0) rfl) (List.mem_of_getElem? (i := 1) rfl) (List.mem_of_getElem? (i := 3) rfl) (List.mem_of_getElem? (i := 2) rfl) (by decide) (m_dr2 l Z a0 hw n0 h0 ((p2 &&& (255 : Int32)).toUInt32.toUInt16.toUInt32.toInt32) ((p3 &&& (255 : Int32)).toUInt32.toUInt16.toUInt32.toInt32) ((p4 &&& (255 : Int32)).toUInt32.toUInt16.toUInt32.toInt32) cst X0 SC hcs (own_ch2 p2) (own_ch2 p3)) (by decide) (by decide) rfl (lenOf pd_14 rfl) rfl (Nat.le_of_ble_eq_true rfl) at_37 rfl (by decide) (by decide) r) (by rintro _ _ ⟨s, v, k, rfl, Kp, -⟩; exact own_kp1 Kp) ?_
    rintro _ h15 ⟨s, v, k, rfl, K16, E17, F18, F19, A20⟩
    have f21 := X0.keep K16 all0
    show RnS w l _ n0 _ Z EL1 [] 40 #[.val (.int p1), .val (.int p2), .val (.int p3), .val (.int p4), .val (.int (2 : Int32)), .val (.int (p2 &&& (255 : Int32)).toUInt32.toUInt16.toUInt32.toInt32), .val (.int (p3 &&& (255 : Int32)).toUInt32.toUInt16.toUInt32.toInt32), .val (.int (p4 &&& (255 : Int32)).toUInt32.toUInt16.toUInt32.toInt32), .unset, .unset] [(.ref s)] h15 3 8
    refine RnS.lift (fun vm0 hs r => have K := K.on hs; Rn.astore K (q := 42) (Ls' := #[.val (.int p1), .val (.int p2), .val (.int p3), .val (.int p4), .val (.int (2 : Int32)), .val (.int (p2 &&& (255 : Int32)).toUInt32.toUInt16.toUInt32.toInt32), .val (.int (p3 &&& (255 : Int32)).toUInt32.toUInt16.toUInt32.toInt32), .val (.int (p4 &&& (255 : Int32)).toUInt32.toUInt16.toUInt32.toInt32), .val (.ref s), .unset]) at_40 rfl rfl rfl r) ?_
    refine RnS.lift (fun vm0 hs r => have K := K.on hs; Rn.aload K (q := 44) at_42 rfl rfl rfl r) ?_
    refine RnS.liftC (fun vm0 hs r => have K := K.on hs; Rn.stat K (q := 47) (W := 0) (y := (⟨"com/example/ballast/ballast/Column", "orNone", "(Ljava/lang/String;)Ljava/lang/String;"⟩ : MethodName)) (argsL := [(.ref s)]) (rest := []) (List.mem_of_getElem? (i := 26) rfl) (List.mem_of_getElem? (i := 27) rfl) (List.mem_of_getElem? (i := 29) rfl) (List.mem_of_getElem? (i := 28) rfl) (by decide) (m_orn2 l Z a0 hw n0 h15 s v k cst (nar .byte (nar .char ((p2 &&& (255 : Int32)).toUInt32.toUInt16.toUInt32.toInt32)).toInt8.toInt32) (nar .byte (nar .char ((p3 &&& (255 : Int32)).toUInt32.toUInt16.toUInt32.toInt32)).toInt8.toInt32) f21 SC hcs E17 F18 F19 A20) (by decide) (by decide) rfl (lenOf pd_15 rfl) rfl (Nat.le_of_ble_eq_true rfl) at_44 rfl (by decide) (by decide) r) (by rintro _ _ ⟨rfl, rfl⟩; exact own_kp0) ?_
    rintro _ _ ⟨rfl, rfl⟩
    show RnS w l _ n0 _ Z EL1 [] 47 #[.val (.int p1), .val (.int p2), .val (.int p3), .val (.int p4), .val (.int (2 : Int32)), .val (.int (p2 &&& (255 : Int32)).toUInt32.toUInt16.toUInt32.toInt32), .val (.int (p3 &&& (255 : Int32)).toUInt32.toUInt16.toUInt32.toInt32), .val (.int (p4 &&& (255 : Int32)).toUInt32.toUInt16.toUInt32.toInt32), .val (.ref s), .unset] [(.ref s)] h15 3 8
    refine RnS.lift (fun vm0 hs r => have K := K.on hs; Rn.astore K (q := 49) (Ls' := #[.val (.int p1), .val (.int p2), .val (.int p3), .val (.int p4), .val (.int (2 : Int32)), .val (.int (p2 &&& (255 : Int32)).toUInt32.toUInt16.toUInt32.toInt32), .val (.int (p3 &&& (255 : Int32)).toUInt32.toUInt16.toUInt32.toInt32), .val (.int (p4 &&& (255 : Int32)).toUInt32.toUInt16.toUInt32.toInt32), .val (.ref s), .val (.ref s)]) at_47 rfl rfl rfl r) ?_
    refine RnS.lift (fun vm0 hs r => have K := K.on hs; Rn.iload K (q := 51) at_49 rfl rfl r) ?_
    refine RnS.lift (fun vm0 hs r => have K := K.on hs; Rn.ifY K (q := 65) at_51 (XT.i0_ne_t (by decide)) (by decide) (by decide) r) ?_
    refine RnS.lift (fun vm0 hs r => have K := K.on hs; Rn.aload K (q := 67) at_65 rfl rfl rfl r) ?_
    refine RnS.lift (fun vm0 hs r => have K := K.on hs; Rn.nullN K (q := 70) at_67 rfl r) ?_
    refine RnS.lift (fun vm0 hs r => have K := K.on hs; Rn.aload K (q := 72) at_70 rfl rfl rfl r) ?_
    refine RnS.liftC (fun vm0 hs r => have K := K.on hs; Rn.virt K (q := 75) (W := 0) (y := (⟨"java/lang/String", "length", "()I"⟩ : MethodName)) (z := (⟨"java/lang/String", "length", "()I"⟩ : MethodName)) (b := s) (argsL := []) (rest := []) (List.mem_of_getElem? (i := 46) rfl) (List.mem_of_getElem? (i := 47) rfl) (nfs K (List.mem_of_getElem? (i := 49) rfl)) (List.mem_of_getElem? (i := 49) rfl) (List.mem_of_getElem? (i := 48) rfl) (List.mem_of_getElem? (i := 50) rfl) (List.mem_of_getElem? (i := 6) rfl) (by decide) (m_len2 l Z a0 hw n0 h15 s v k cst (nar .byte (nar .char ((p2 &&& (255 : Int32)).toUInt32.toUInt16.toUInt32.toInt32)).toInt8.toInt32) (nar .byte (nar .char ((p3 &&& (255 : Int32)).toUInt32.toUInt16.toUInt32.toInt32)).toInt8.toInt32) f21 SC hcs E17 F18 F19 A20) E17 (by decide) (by decide) rfl (lenOf pd_16 rfl) rfl (Nat.le_of_ble_eq_true rfl) at_72 rfl (by decide) (by decide) r) (by rintro _ _ ⟨rfl, rfl⟩; exact own_kp0) ?_
    rintro _ _ ⟨rfl, rfl⟩
    show RnS w l _ n0 _ Z EL1 [] 75 #[.val (.int p1), .val (.int p2), .val (.int p3), .val (.int p4), .val (.int (2 : Int32)), .val (.int (p2 &&& (255 : Int32)).toUInt32.toUInt16.toUInt32.toInt32), .val (.int (p3 &&& (255 : Int32)).toUInt32.toUInt16.toUInt32.toInt32), .val (.int (p4 &&& (255 : Int32)).toUInt32.toUInt16.toUInt32.toInt32), .val (.ref s), .val (.ref s)] [(.int (2 : Int32))] h15 3 8
    refine RnS.lift (fun vm0 hs r => have K := K.on hs; Rn.iload K (q := 77) at_75 rfl rfl r) ?_
    refine RnS.lift (fun vm0 hs r => have K := K.on hs; Rn.icN K (q := 80) at_77 (XT.ii_ne_f rfl) rfl r) ?_
    refine RnS.lift (fun vm0 hs r => have K := K.on hs; Rn.aload K (q := 82) at_80 rfl rfl rfl r) ?_
    refine RnS.lift (fun vm0 hs r => have K := K.on hs; Rn.aload K (q := 84) at_82 rfl rfl rfl r) ?_
    refine RnS.liftC (fun vm0 hs r => have K := K.on hs; Rn.virt K (q := 87) (W := 0) (y := (⟨"java/lang/String", "equals", "(Ljava/lang/Object;)Z"⟩ : MethodName)) (z := (⟨"java/lang/String", "equals", "(Ljava/lang/Object;)Z"⟩ : MethodName)) (b := s) (argsL := [(.ref s)]) (rest := []) (List.mem_of_getElem? (i := 56) rfl) (List.mem_of_getElem? (i := 57) rfl) (nfs K (List.mem_of_getElem? (i := 59) rfl)) (List.mem_of_getElem? (i := 59) rfl) (List.mem_of_getElem? (i := 58) rfl) (List.mem_of_getElem? (i := 60) rfl) (List.mem_of_getElem? (i := 6) rfl) (by decide) (m_eq l Z a0 hw n0 h15 s f21) E17 (by decide) (by decide) rfl (lenOf pd_17 rfl) rfl (Nat.le_of_ble_eq_true rfl) at_84 rfl (by decide) (by decide) r) (by rintro _ _ ⟨rfl, rfl⟩; exact own_kp0) ?_
    rintro _ _ ⟨rfl, rfl⟩
    show RnS w l _ n0 _ Z EL1 [] 87 #[.val (.int p1), .val (.int p2), .val (.int p3), .val (.int p4), .val (.int (2 : Int32)), .val (.int (p2 &&& (255 : Int32)).toUInt32.toUInt16.toUInt32.toInt32), .val (.int (p3 &&& (255 : Int32)).toUInt32.toUInt16.toUInt32.toInt32), .val (.int (p4 &&& (255 : Int32)).toUInt32.toUInt16.toUInt32.toInt32), .val (.ref s), .val (.ref s)] [(.int (1 : Int32))] h15 3 8
    refine RnS.lift (fun vm0 hs r => have K := K.on hs; Rn.ifN K (q := 90) at_87 (XT.i0_eq_f (by decide)) rfl r) ?_
    refine RnS.lift (fun vm0 hs r => have K := K.on hs; Rn.aload K (q := 92) at_90 rfl rfl rfl r) ?_
    refine RnS.lift (fun vm0 hs r => have K := K.on hs; Rn.iconst K (q := 93) (0 : Int32) at_92 rfl rfl r) ?_
    refine RnS.liftC (fun vm0 hs r => have K := K.on hs; Rn.virt K (q := 96) (W := 0) (y := (⟨"java/lang/String", "charAt", "(I)C"⟩ : MethodName)) (z := (⟨"java/lang/String", "charAt", "(I)C"⟩ : MethodName)) (b := s) (argsL := [(.int (0 : Int32))]) (rest := []) (List.mem_of_getElem? (i := 61) rfl) (List.mem_of_getElem? (i := 62) rfl) (nfs K (List.mem_of_getElem? (i := 64) rfl)) (List.mem_of_getElem? (i := 64) rfl) (List.mem_of_getElem? (i := 63) rfl) (List.mem_of_getElem? (i := 65) rfl) (List.mem_of_getElem? (i := 6) rfl) (by decide) (m_ch20 l Z a0 hw n0 h15 s v k cst (nar .byte (nar .char ((p2 &&& (255 : Int32)).toUInt32.toUInt16.toUInt32.toInt32)).toInt8.toInt32) (nar .byte (nar .char ((p3 &&& (255 : Int32)).toUInt32.toUInt16.toUInt32.toInt32)).toInt8.toInt32) fv hfv f21 SC hcs SQ E17 F18 F19 A20) E17 (by decide) (by decide) rfl (lenOf pd_18 rfl) rfl (Nat.le_of_ble_eq_true rfl) at_93 rfl (by decide) (by decide) r) (by rintro _ _ ⟨rfl, rfl⟩; exact own_kp0) ?_
    rintro _ _ ⟨rfl, rfl⟩
    show RnS w l _ n0 _ Z EL1 [] 96 #[.val (.int p1), .val (.int p2), .val (.int p3), .val (.int p4), .val (.int (2 : Int32)), .val (.int (p2 &&& (255 : Int32)).toUInt32.toUInt16.toUInt32.toInt32), .val (.int (p3 &&& (255 : Int32)).toUInt32.toUInt16.toUInt32.toInt32), .val (.int (p4 &&& (255 : Int32)).toUInt32.toUInt16.toUInt32.toInt32), .val (.ref s), .val (.ref s)] [(.int (nar .char (nar .char ((nar .byte (nar .char ((p2 &&& (255 : Int32)).toUInt32.toUInt16.toUInt32.toInt32)).toInt8.toInt32) &&& (255 : Int32)).toUInt32.toUInt16.toUInt32.toInt32)))] h15 3 8
    refine RnS.lift (fun vm0 hs r => have K := K.on hs; Rn.iload K (q := 98) at_96 rfl rfl r) ?_
    refine RnS.lift (fun vm0 hs r => have K := K.on hs; Rn.icN K (q := 101) at_98 (XT.ii_ne_f (own_c2 p2)) rfl r) ?_
    refine RnS.lift (fun vm0 hs r => have K := K.on hs; Rn.aload K (q := 103) at_101 rfl rfl rfl r) ?_
    refine RnS.lift (fun vm0 hs r => have K := K.on hs; Rn.iload K (q := 105) at_103 rfl rfl r) ?_
    refine RnS.lift (fun vm0 hs r => have K := K.on hs; Rn.iconst K (q := 106) (1 : Int32) at_105 rfl rfl r) ?_
    refine RnS.lift (fun vm0 hs r => have K := K.on hs; Rn.isub K (q := 107) at_106 rfl r) ?_
    show RnS w l _ n0 _ Z EL1 [] 107 #[.val (.int p1), .val (.int p2), .val (.int p3), .val (.int p4), .val (.int (2 : Int32)), .val (.int (p2 &&& (255 : Int32)).toUInt32.toUInt16.toUInt32.toInt32), .val (.int (p3 &&& (255 : Int32)).toUInt32.toUInt16.toUInt32.toInt32), .val (.int (p4 &&& (255 : Int32)).toUInt32.toUInt16.toUInt32.toInt32), .val (.ref s), .val (.ref s)] [(.int (1 : Int32)), (.ref s)] h15 3 8
    refine RnS.liftC (fun vm0 hs r => have K := K.on hs; Rn.virt K (q := 110) (W := 0) (y := (⟨"java/lang/String", "charAt", "(I)C"⟩ : MethodName)) (z := (⟨"java/lang/String", "charAt", "(I)C"⟩ : MethodName)) (b := s) (argsL := [(.int (1 : Int32))]) (rest := []) (List.mem_of_getElem? (i := 61) rfl) (List.mem_of_getElem? (i := 62) rfl) (nfs K (List.mem_of_getElem? (i := 64) rfl)) (List.mem_of_getElem? (i := 64) rfl) (List.mem_of_getElem? (i := 63) rfl) (List.mem_of_getElem? (i := 65) rfl) (List.mem_of_getElem? (i := 6) rfl) (by decide) (m_ch21 l Z a0 hw n0 h15 s v k cst (nar .byte (nar .char ((p2 &&& (255 : Int32)).toUInt32.toUInt16.toUInt32.toInt32)).toInt8.toInt32) (nar .byte (nar .char ((p3 &&& (255 : Int32)).toUInt32.toUInt16.toUInt32.toInt32)).toInt8.toInt32) fv hfv f21 SC hcs SQ E17 F18 F19 A20) E17 (by decide) (by decide) rfl (lenOf pd_18 rfl) rfl (Nat.le_of_ble_eq_true rfl) at_107 rfl (by decide) (by decide) r) (by rintro _ _ ⟨rfl, rfl⟩; exact own_kp0) ?_
    rintro _ _ ⟨rfl, rfl⟩
    show RnS w l _ n0 _ Z EL1 [] 110 #[.val (.int p1), .val (.int p2), .val (.int p3), .val (.int p4), .val (.int (2 : Int32)), .val (.int (p2 &&& (255 : Int32)).toUInt32.toUInt16.toUInt32.toInt32), .val (.int (p3 &&& (255 : Int32)).toUInt32.toUInt16.toUInt32.toInt32), .val (.int (p4 &&& (255 : Int32)).toUInt32.toUInt16.toUInt32.toInt32), .val (.ref s), .val (.ref s)] [(.int (nar .char (nar .char ((nar .byte (nar .char ((p3 &&& (255 : Int32)).toUInt32.toUInt16.toUInt32.toInt32)).toInt8.toInt32) &&& (255 : Int32)).toUInt32.toUInt16.toUInt32.toInt32)))] h15 3 8
    refine RnS.lift (fun vm0 hs r => have K := K.on hs; Rn.aload K (q := 112) at_110 rfl rfl rfl r) ?_
    refine RnS.lift (fun vm0 hs r => have K := K.on hs; Rn.iload K (q := 114) at_112 rfl rfl r) ?_
    refine RnS.lift (fun vm0 hs r => have K := K.on hs; Rn.iconst K (q := 115) (1 : Int32) at_114 rfl rfl r) ?_
    refine RnS.lift (fun vm0 hs r => have K := K.on hs; Rn.isub K (q := 116) at_115 rfl r) ?_
    show RnS w l _ n0 _ Z EL1 [] 116 #[.val (.int p1), .val (.int p2), .val (.int p3), .val (.int p4), .val (.int (2 : Int32)), .val (.int (p2 &&& (255 : Int32)).toUInt32.toUInt16.toUInt32.toInt32), .val (.int (p3 &&& (255 : Int32)).toUInt32.toUInt16.toUInt32.toInt32), .val (.int (p4 &&& (255 : Int32)).toUInt32.toUInt16.toUInt32.toInt32), .val (.ref s), .val (.ref s)] [(.int (1 : Int32)), (.ref s), (.int (nar .char (nar .char ((nar .byte (nar .char ((p3 &&& (255 : Int32)).toUInt32.toUInt16.toUInt32.toInt32)).toInt8.toInt32) &&& (255 : Int32)).toUInt32.toUInt16.toUInt32.toInt32)))] h15 3 8
    refine RnS.liftC (fun vm0 hs r => have K := K.on hs; Rn.virt K (q := 119) (W := 1) (y := (⟨"java/lang/String", "charAt", "(I)C"⟩ : MethodName)) (z := (⟨"java/lang/String", "charAt", "(I)C"⟩ : MethodName)) (b := s) (argsL := [(.int (1 : Int32))]) (rest := [(.int (nar .char (nar .char ((nar .byte (nar .char ((p3 &&& (255 : Int32)).toUInt32.toUInt16.toUInt32.toInt32)).toInt8.toInt32) &&& (255 : Int32)).toUInt32.toUInt16.toUInt32.toInt32)))]) (List.mem_of_getElem? (i := 61) rfl) (List.mem_of_getElem? (i := 62) rfl) (nfs K (List.mem_of_getElem? (i := 64) rfl)) (List.mem_of_getElem? (i := 64) rfl) (List.mem_of_getElem? (i := 63) rfl) (List.mem_of_getElem? (i := 65) rfl) (List.mem_of_getElem? (i := 6) rfl) (by decide) (m_ch21 l Z a0 hw n0 h15 s v k cst (nar .byte (nar .char ((p2 &&& (255 : Int32)).toUInt32.toUInt16.toUInt32.toInt32)).toInt8.toInt32) (nar .byte (nar .char ((p3 &&& (255 : Int32)).toUInt32.toUInt16.toUInt32.toInt32)).toInt8.toInt32) fv hfv f21 SC hcs SQ E17 F18 F19 A20) E17 (by decide) (by decide) rfl (lenOf pd_18 rfl) rfl (Nat.le_of_ble_eq_true rfl) at_116 rfl (by decide) (by decide) r) (by rintro _ _ ⟨rfl, rfl⟩; exact own_kp0) ?_
    rintro _ _ ⟨rfl, rfl⟩
    show RnS w l _ n0 _ Z EL1 [] 119 #[.val (.int p1), .val (.int p2), .val (.int p3), .val (.int p4), .val (.int (2 : Int32)), .val (.int (p2 &&& (255 : Int32)).toUInt32.toUInt16.toUInt32.toInt32), .val (.int (p3 &&& (255 : Int32)).toUInt32.toUInt16.toUInt32.toInt32), .val (.int (p4 &&& (255 : Int32)).toUInt32.toUInt16.toUInt32.toInt32), .val (.ref s), .val (.ref s)] [(.int (nar .char (nar .char ((nar .byte (nar .char ((p3 &&& (255 : Int32)).toUInt32.toUInt16.toUInt32.toInt32)).toInt8.toInt32) &&& (255 : Int32)).toUInt32.toUInt16.toUInt32.toInt32))), (.int (nar .char (nar .char ((nar .byte (nar .char ((p3 &&& (255 : Int32)).toUInt32.toUInt16.toUInt32.toInt32)).toInt8.toInt32) &&& (255 : Int32)).toUInt32.toUInt16.toUInt32.toInt32)))] h15 3 8
    refine RnS.lift (fun vm0 hs r => have K := K.on hs; Rn.icN K (q := 122) at_119 (XT.ii_ne_f rfl) rfl r) ?_
    refine RnS.lift (fun vm0 hs r => have K := K.on hs; Rn.iconst K (q := 123) (1 : Int32) at_122 rfl rfl r) ?_
    refine RnS.lift (fun vm0 hs r => have K := K.on hs; Rn.goto K (q := 127) at_123 (by decide) (by decide) r) ?_
    exact RnS.retN K hEL .boolean rfl (by simp) at_127 (by decide) (by decide) rfl
  · rw [e]
    show RnS w l _ n0 _ Z EL1 [] 5 #[.val (.int p1), .val (.int p2), .val (.int p3), .val (.int p4), .val (.int (3 : Int32)), .unset, .unset, .unset, .unset, .unset] [] h0 0 0
    refine RnS.lift (fun vm0 hs r => have K := K.on hs; Rn.iloadN K (q := 6) at_5 rfl rfl r) ?_
    refine RnS.lift (fun vm0 hs r => have K := K.on hs; Rn.sipush K (q := 9) (255 : Int32) at_6 rfl rfl r) ?_
    refine RnS.lift (fun vm0 hs r => have K := K.on hs; Rn.iand K (q := 10) at_9 rfl r) ?_
    refine RnS.lift (fun vm0 hs r => have K := K.on hs; Rn.i2c K (q := 11) at_10 rfl r) ?_
    refine RnS.lift (fun vm0 hs r => have K := K.on hs; Rn.istore K (q := 13) (Ls' := #[.val (.int p1), .val (.int p2), .val (.int p3), .val (.int p4), .val (.int (3 : Int32)), .val (.int (p2 &&& (255 : Int32)).toUInt32.toUInt16.toUInt32.toInt32), .unset, .unset, .unset, .unset]) at_11 rfl rfl r) ?_
    refine RnS.lift (fun vm0 hs r => have K := K.on hs; Rn.iloadN K (q := 14) at_13 rfl rfl r) ?_
    refine RnS.lift (fun vm0 hs r => have K := K.on hs; Rn.sipush K (q := 17) (255 : Int32) at_14 rfl rfl r) ?_
    refine RnS.lift (fun vm0 hs r => have K := K.on hs; Rn.iand K (q := 18) at_17 rfl r) ?_
    refine RnS.lift (fun vm0 hs r => have K := K.on hs; Rn.i2c K (q := 19) at_18 rfl r) ?_
    refine RnS.lift (fun vm0 hs r => have K := K.on hs; Rn.istore K (q := 21) (Ls' := #[.val (.int p1), .val (.int p2), .val (.int p3), .val (.int p4), .val (.int (3 : Int32)), .val (.int (p2 &&& (255 : Int32)).toUInt32.toUInt16.toUInt32.toInt32), .val (.int (p3 &&& (255 : Int32)).toUInt32.toUInt16.toUInt32.toInt32), .unset, .unset, .unset]) at_19 rfl rfl r) ?_
    refine RnS.lift (fun vm0 hs r => have K := K.on hs; Rn.iloadN K (q := 22) at_21 rfl rfl r) ?_
    refine RnS.lift (fun vm0 hs r => have K := K.on hs; Rn.sipush K (q := 25) (255 : Int32) at_22 rfl rfl r) ?_
    refine RnS.lift (fun vm0 hs r => have K := K.on hs; Rn.iand K (q := 26) at_25 rfl r) ?_
    refine RnS.lift (fun vm0 hs r => have K := K.on hs; Rn.i2c K (q := 27) at_26 rfl r) ?_
    refine RnS.lift (fun vm0 hs r => have K := K.on hs; Rn.istore K (q := 29) (Ls' := #[.val (.int p1), .val (.int p2), .val (.int p3), .val (.int p4), .val (.int (3 : Int32)), .val (.int (p2 &&& (255 : Int32)).toUInt32.toUInt16.toUInt32.toInt32), .val (.int (p3 &&& (255 : Int32)).toUInt32.toUInt16.toUInt32.toInt32), .val (.int (p4 &&& (255 : Int32)).toUInt32.toUInt16.toUInt32.toInt32), .unset, .unset]) at_27 rfl rfl r) ?_
    refine RnS.lift (fun vm0 hs r => have K := K.on hs; Rn.iload K (q := 31) at_29 rfl rfl r) ?_
    refine RnS.lift (fun vm0 hs r => have K := K.on hs; Rn.iload K (q := 33) at_31 rfl rfl r) ?_
    refine RnS.lift (fun vm0 hs r => have K := K.on hs; Rn.iload K (q := 35) at_33 rfl rfl r) ?_
    refine RnS.lift (fun vm0 hs r => have K := K.on hs; Rn.iload K (q := 37) at_35 rfl rfl r) ?_
    refine RnS.liftC (fun vm0 hs r => have K := K.on hs; Rn.stat K (q := 40) (W := 0) (y := (⟨"com/example/ballast/ballast/ColumnOrNonePinLaw", "draw", "(ICCC)Ljava/lang/String;"⟩ : MethodName)) (argsL := [(.int (3 : Int32)), (.int (p2 &&& (255 : Int32)).toUInt32.toUInt16.toUInt32.toInt32), (.int (p3 &&& (255 : Int32)).toUInt32.toUInt16.toUInt32.toInt32), (.int (p4 &&& (255 : Int32)).toUInt32.toUInt16.toUInt32.toInt32)]) (rest := []) (List.mem_of_getElem? (i := 0) rfl) (List.mem_of_getElem? (i := 1) rfl) (List.mem_of_getElem? (i := 3) rfl) (List.mem_of_getElem? (i := 2) rfl) (by decide) (m_dr3 l Z a0 hw n0 h0 ((p2 &&& (255 : Int32)).toUInt32.toUInt16.toUInt32.toInt32) ((p3 &&& (255 : Int32)).toUInt32.toUInt16.toUInt32.toInt32) ((p4 &&& (255 : Int32)).toUInt32.toUInt16.toUInt32.toInt32) cst X0 SC hcs (own_ch2 p2) (own_ch2 p3) (own_ch2 p4)) (by decide) (by decide) rfl (lenOf pd_14 rfl) rfl (Nat.le_of_ble_eq_true rfl) at_37 rfl (by decide) (by decide) r) (by rintro _ _ ⟨s, v, k, rfl, Kp, -⟩; exact own_kp1 Kp) ?_
    rintro _ h22 ⟨s, v, k, rfl, K23, E24, F25, F26, A27⟩
    have f28 := X0.keep K23 all0
    show RnS w l _ n0 _ Z EL1 [] 40 #[.val (.int p1), .val (.int p2), .val (.int p3), .val (.int p4), .val (.int (3 : Int32)), .val (.int (p2 &&& (255 : Int32)).toUInt32.toUInt16.toUInt32.toInt32), .val (.int (p3 &&& (255 : Int32)).toUInt32.toUInt16.toUInt32.toInt32), .val (.int (p4 &&& (255 : Int32)).toUInt32.toUInt16.toUInt32.toInt32), .unset, .unset] [(.ref s)] h22 3 10
    refine RnS.lift (fun vm0 hs r => have K := K.on hs; Rn.astore K (q := 42) (Ls' := #[.val (.int p1), .val (.int p2), .val (.int p3), .val (.int p4), .val (.int (3 : Int32)), .val (.int (p2 &&& (255 : Int32)).toUInt32.toUInt16.toUInt32.toInt32), .val (.int (p3 &&& (255 : Int32)).toUInt32.toUInt16.toUInt32.toInt32), .val (.int (p4 &&& (255 : Int32)).toUInt32.toUInt16.toUInt32.toInt32), .val (.ref s), .unset]) at_40 rfl rfl rfl r) ?_
    refine RnS.lift (fun vm0 hs r => have K := K.on hs; Rn.aload K (q := 44) at_42 rfl rfl rfl r) ?_
    refine RnS.liftC (fun vm0 hs r => have K := K.on hs; Rn.stat K (q := 47) (W := 0) (y := (⟨"com/example/ballast/ballast/Column", "orNone", "(Ljava/lang/String;)Ljava/lang/String;"⟩ : MethodName)) (argsL := [(.ref s)]) (rest := []) (List.mem_of_getElem? (i := 26) rfl) (List.mem_of_getElem? (i := 27) rfl) (List.mem_of_getElem? (i := 29) rfl) (List.mem_of_getElem? (i := 28) rfl) (by decide) (m_orn3 l Z a0 hw n0 h22 s v k cst (nar .byte (nar .char ((p2 &&& (255 : Int32)).toUInt32.toUInt16.toUInt32.toInt32)).toInt8.toInt32) (nar .byte (nar .char ((p3 &&& (255 : Int32)).toUInt32.toUInt16.toUInt32.toInt32)).toInt8.toInt32) (nar .byte (nar .char ((p4 &&& (255 : Int32)).toUInt32.toUInt16.toUInt32.toInt32)).toInt8.toInt32) f28 SC hcs E24 F25 F26 A27) (by decide) (by decide) rfl (lenOf pd_15 rfl) rfl (Nat.le_of_ble_eq_true rfl) at_44 rfl (by decide) (by decide) r) (by rintro _ _ ⟨rfl, rfl⟩; exact own_kp0) ?_
    rintro _ _ ⟨rfl, rfl⟩
    show RnS w l _ n0 _ Z EL1 [] 47 #[.val (.int p1), .val (.int p2), .val (.int p3), .val (.int p4), .val (.int (3 : Int32)), .val (.int (p2 &&& (255 : Int32)).toUInt32.toUInt16.toUInt32.toInt32), .val (.int (p3 &&& (255 : Int32)).toUInt32.toUInt16.toUInt32.toInt32), .val (.int (p4 &&& (255 : Int32)).toUInt32.toUInt16.toUInt32.toInt32), .val (.ref s), .unset] [(.ref s)] h22 3 10
    refine RnS.lift (fun vm0 hs r => have K := K.on hs; Rn.astore K (q := 49) (Ls' := #[.val (.int p1), .val (.int p2), .val (.int p3), .val (.int p4), .val (.int (3 : Int32)), .val (.int (p2 &&& (255 : Int32)).toUInt32.toUInt16.toUInt32.toInt32), .val (.int (p3 &&& (255 : Int32)).toUInt32.toUInt16.toUInt32.toInt32), .val (.int (p4 &&& (255 : Int32)).toUInt32.toUInt16.toUInt32.toInt32), .val (.ref s), .val (.ref s)]) at_47 rfl rfl rfl r) ?_
    refine RnS.lift (fun vm0 hs r => have K := K.on hs; Rn.iload K (q := 51) at_49 rfl rfl r) ?_
    refine RnS.lift (fun vm0 hs r => have K := K.on hs; Rn.ifY K (q := 65) at_51 (XT.i0_ne_t (by decide)) (by decide) (by decide) r) ?_
    refine RnS.lift (fun vm0 hs r => have K := K.on hs; Rn.aload K (q := 67) at_65 rfl rfl rfl r) ?_
    refine RnS.lift (fun vm0 hs r => have K := K.on hs; Rn.nullN K (q := 70) at_67 rfl r) ?_
    refine RnS.lift (fun vm0 hs r => have K := K.on hs; Rn.aload K (q := 72) at_70 rfl rfl rfl r) ?_
    refine RnS.liftC (fun vm0 hs r => have K := K.on hs; Rn.virt K (q := 75) (W := 0) (y := (⟨"java/lang/String", "length", "()I"⟩ : MethodName)) (z := (⟨"java/lang/String", "length", "()I"⟩ : MethodName)) (b := s) (argsL := []) (rest := []) (List.mem_of_getElem? (i := 46) rfl) (List.mem_of_getElem? (i := 47) rfl) (nfs K (List.mem_of_getElem? (i := 49) rfl)) (List.mem_of_getElem? (i := 49) rfl) (List.mem_of_getElem? (i := 48) rfl) (List.mem_of_getElem? (i := 50) rfl) (List.mem_of_getElem? (i := 6) rfl) (by decide) (m_len3 l Z a0 hw n0 h22 s v k cst (nar .byte (nar .char ((p2 &&& (255 : Int32)).toUInt32.toUInt16.toUInt32.toInt32)).toInt8.toInt32) (nar .byte (nar .char ((p3 &&& (255 : Int32)).toUInt32.toUInt16.toUInt32.toInt32)).toInt8.toInt32) (nar .byte (nar .char ((p4 &&& (255 : Int32)).toUInt32.toUInt16.toUInt32.toInt32)).toInt8.toInt32) f28 SC hcs E24 F25 F26 A27) E24 (by decide) (by decide) rfl (lenOf pd_16 rfl) rfl (Nat.le_of_ble_eq_true rfl) at_72 rfl (by decide) (by decide) r) (by rintro _ _ ⟨rfl, rfl⟩; exact own_kp0) ?_
    rintro _ _ ⟨rfl, rfl⟩
    show RnS w l _ n0 _ Z EL1 [] 75 #[.val (.int p1), .val (.int p2), .val (.int p3), .val (.int p4), .val (.int (3 : Int32)), .val (.int (p2 &&& (255 : Int32)).toUInt32.toUInt16.toUInt32.toInt32), .val (.int (p3 &&& (255 : Int32)).toUInt32.toUInt16.toUInt32.toInt32), .val (.int (p4 &&& (255 : Int32)).toUInt32.toUInt16.toUInt32.toInt32), .val (.ref s), .val (.ref s)] [(.int (3 : Int32))] h22 3 10
    refine RnS.lift (fun vm0 hs r => have K := K.on hs; Rn.iload K (q := 77) at_75 rfl rfl r) ?_
    refine RnS.lift (fun vm0 hs r => have K := K.on hs; Rn.icN K (q := 80) at_77 (XT.ii_ne_f rfl) rfl r) ?_
    refine RnS.lift (fun vm0 hs r => have K := K.on hs; Rn.aload K (q := 82) at_80 rfl rfl rfl r) ?_
    refine RnS.lift (fun vm0 hs r => have K := K.on hs; Rn.aload K (q := 84) at_82 rfl rfl rfl r) ?_
    refine RnS.liftC (fun vm0 hs r => have K := K.on hs; Rn.virt K (q := 87) (W := 0) (y := (⟨"java/lang/String", "equals", "(Ljava/lang/Object;)Z"⟩ : MethodName)) (z := (⟨"java/lang/String", "equals", "(Ljava/lang/Object;)Z"⟩ : MethodName)) (b := s) (argsL := [(.ref s)]) (rest := []) (List.mem_of_getElem? (i := 56) rfl) (List.mem_of_getElem? (i := 57) rfl) (nfs K (List.mem_of_getElem? (i := 59) rfl)) (List.mem_of_getElem? (i := 59) rfl) (List.mem_of_getElem? (i := 58) rfl) (List.mem_of_getElem? (i := 60) rfl) (List.mem_of_getElem? (i := 6) rfl) (by decide) (m_eq l Z a0 hw n0 h22 s f28) E24 (by decide) (by decide) rfl (lenOf pd_17 rfl) rfl (Nat.le_of_ble_eq_true rfl) at_84 rfl (by decide) (by decide) r) (by rintro _ _ ⟨rfl, rfl⟩; exact own_kp0) ?_
    rintro _ _ ⟨rfl, rfl⟩
    show RnS w l _ n0 _ Z EL1 [] 87 #[.val (.int p1), .val (.int p2), .val (.int p3), .val (.int p4), .val (.int (3 : Int32)), .val (.int (p2 &&& (255 : Int32)).toUInt32.toUInt16.toUInt32.toInt32), .val (.int (p3 &&& (255 : Int32)).toUInt32.toUInt16.toUInt32.toInt32), .val (.int (p4 &&& (255 : Int32)).toUInt32.toUInt16.toUInt32.toInt32), .val (.ref s), .val (.ref s)] [(.int (1 : Int32))] h22 3 10
    refine RnS.lift (fun vm0 hs r => have K := K.on hs; Rn.ifN K (q := 90) at_87 (XT.i0_eq_f (by decide)) rfl r) ?_
    refine RnS.lift (fun vm0 hs r => have K := K.on hs; Rn.aload K (q := 92) at_90 rfl rfl rfl r) ?_
    refine RnS.lift (fun vm0 hs r => have K := K.on hs; Rn.iconst K (q := 93) (0 : Int32) at_92 rfl rfl r) ?_
    refine RnS.liftC (fun vm0 hs r => have K := K.on hs; Rn.virt K (q := 96) (W := 0) (y := (⟨"java/lang/String", "charAt", "(I)C"⟩ : MethodName)) (z := (⟨"java/lang/String", "charAt", "(I)C"⟩ : MethodName)) (b := s) (argsL := [(.int (0 : Int32))]) (rest := []) (List.mem_of_getElem? (i := 61) rfl) (List.mem_of_getElem? (i := 62) rfl) (nfs K (List.mem_of_getElem? (i := 64) rfl)) (List.mem_of_getElem? (i := 64) rfl) (List.mem_of_getElem? (i := 63) rfl) (List.mem_of_getElem? (i := 65) rfl) (List.mem_of_getElem? (i := 6) rfl) (by decide) (m_ch30 l Z a0 hw n0 h22 s v k cst (nar .byte (nar .char ((p2 &&& (255 : Int32)).toUInt32.toUInt16.toUInt32.toInt32)).toInt8.toInt32) (nar .byte (nar .char ((p3 &&& (255 : Int32)).toUInt32.toUInt16.toUInt32.toInt32)).toInt8.toInt32) (nar .byte (nar .char ((p4 &&& (255 : Int32)).toUInt32.toUInt16.toUInt32.toInt32)).toInt8.toInt32) fv hfv f28 SC hcs SQ E24 F25 F26 A27) E24 (by decide) (by decide) rfl (lenOf pd_18 rfl) rfl (Nat.le_of_ble_eq_true rfl) at_93 rfl (by decide) (by decide) r) (by rintro _ _ ⟨rfl, rfl⟩; exact own_kp0) ?_
    rintro _ _ ⟨rfl, rfl⟩
    show RnS w l _ n0 _ Z EL1 [] 96 #[.val (.int p1), .val (.int p2), .val (.int p3), .val (.int p4), .val (.int (3 : Int32)), .val (.int (p2 &&& (255 : Int32)).toUInt32.toUInt16.toUInt32.toInt32), .val (.int (p3 &&& (255 : Int32)).toUInt32.toUInt16.toUInt32.toInt32), .val (.int (p4 &&& (255 : Int32)).toUInt32.toUInt16.toUInt32.toInt32), .val (.ref s), .val (.ref s)] [(.int (nar .char (nar .char ((nar .byte (nar .char ((p2 &&& (255 : Int32)).toUInt32.toUInt16.toUInt32.toInt32)).toInt8.toInt32) &&& (255 : Int32)).toUInt32.toUInt16.toUInt32.toInt32)))] h22 3 10
    refine RnS.lift (fun vm0 hs r => have K := K.on hs; Rn.iload K (q := 98) at_96 rfl rfl r) ?_
    refine RnS.lift (fun vm0 hs r => have K := K.on hs; Rn.icN K (q := 101) at_98 (XT.ii_ne_f (own_c2 p2)) rfl r) ?_
    refine RnS.lift (fun vm0 hs r => have K := K.on hs; Rn.aload K (q := 103) at_101 rfl rfl rfl r) ?_
    refine RnS.lift (fun vm0 hs r => have K := K.on hs; Rn.iload K (q := 105) at_103 rfl rfl r) ?_
    refine RnS.lift (fun vm0 hs r => have K := K.on hs; Rn.iconst K (q := 106) (1 : Int32) at_105 rfl rfl r) ?_
    refine RnS.lift (fun vm0 hs r => have K := K.on hs; Rn.isub K (q := 107) at_106 rfl r) ?_
    show RnS w l _ n0 _ Z EL1 [] 107 #[.val (.int p1), .val (.int p2), .val (.int p3), .val (.int p4), .val (.int (3 : Int32)), .val (.int (p2 &&& (255 : Int32)).toUInt32.toUInt16.toUInt32.toInt32), .val (.int (p3 &&& (255 : Int32)).toUInt32.toUInt16.toUInt32.toInt32), .val (.int (p4 &&& (255 : Int32)).toUInt32.toUInt16.toUInt32.toInt32), .val (.ref s), .val (.ref s)] [(.int (2 : Int32)), (.ref s)] h22 3 10
    refine RnS.liftC (fun vm0 hs r => have K := K.on hs; Rn.virt K (q := 110) (W := 0) (y := (⟨"java/lang/String", "charAt", "(I)C"⟩ : MethodName)) (z := (⟨"java/lang/String", "charAt", "(I)C"⟩ : MethodName)) (b := s) (argsL := [(.int (2 : Int32))]) (rest := []) (List.mem_of_getElem? (i := 61) rfl) (List.mem_of_getElem? (i := 62) rfl) (nfs K (List.mem_of_getElem? (i := 64) rfl)) (List.mem_of_getElem? (i := 64) rfl) (List.mem_of_getElem? (i := 63) rfl) (List.mem_of_getElem? (i := 65) rfl) (List.mem_of_getElem? (i := 6) rfl) (by decide) (m_ch32 l Z a0 hw n0 h22 s v k cst (nar .byte (nar .char ((p2 &&& (255 : Int32)).toUInt32.toUInt16.toUInt32.toInt32)).toInt8.toInt32) (nar .byte (nar .char ((p3 &&& (255 : Int32)).toUInt32.toUInt16.toUInt32.toInt32)).toInt8.toInt32) (nar .byte (nar .char ((p4 &&& (255 : Int32)).toUInt32.toUInt16.toUInt32.toInt32)).toInt8.toInt32) fv hfv f28 SC hcs SQ E24 F25 F26 A27) E24 (by decide) (by decide) rfl (lenOf pd_18 rfl) rfl (Nat.le_of_ble_eq_true rfl) at_107 rfl (by decide) (by decide) r) (by rintro _ _ ⟨rfl, rfl⟩; exact own_kp0) ?_
    rintro _ _ ⟨rfl, rfl⟩
    show RnS w l _ n0 _ Z EL1 [] 110 #[.val (.int p1), .val (.int p2), .val (.int p3), .val (.int p4), .val (.int (3 : Int32)), .val (.int (p2 &&& (255 : Int32)).toUInt32.toUInt16.toUInt32.toInt32), .val (.int (p3 &&& (255 : Int32)).toUInt32.toUInt16.toUInt32.toInt32), .val (.int (p4 &&& (255 : Int32)).toUInt32.toUInt16.toUInt32.toInt32), .val (.ref s), .val (.ref s)] [(.int (nar .char (nar .char ((nar .byte (nar .char ((p4 &&& (255 : Int32)).toUInt32.toUInt16.toUInt32.toInt32)).toInt8.toInt32) &&& (255 : Int32)).toUInt32.toUInt16.toUInt32.toInt32)))] h22 3 10
    refine RnS.lift (fun vm0 hs r => have K := K.on hs; Rn.aload K (q := 112) at_110 rfl rfl rfl r) ?_
    refine RnS.lift (fun vm0 hs r => have K := K.on hs; Rn.iload K (q := 114) at_112 rfl rfl r) ?_
    refine RnS.lift (fun vm0 hs r => have K := K.on hs; Rn.iconst K (q := 115) (1 : Int32) at_114 rfl rfl r) ?_
    refine RnS.lift (fun vm0 hs r => have K := K.on hs; Rn.isub K (q := 116) at_115 rfl r) ?_
    show RnS w l _ n0 _ Z EL1 [] 116 #[.val (.int p1), .val (.int p2), .val (.int p3), .val (.int p4), .val (.int (3 : Int32)), .val (.int (p2 &&& (255 : Int32)).toUInt32.toUInt16.toUInt32.toInt32), .val (.int (p3 &&& (255 : Int32)).toUInt32.toUInt16.toUInt32.toInt32), .val (.int (p4 &&& (255 : Int32)).toUInt32.toUInt16.toUInt32.toInt32), .val (.ref s), .val (.ref s)] [(.int (2 : Int32)), (.ref s), (.int (nar .char (nar .char ((nar .byte (nar .char ((p4 &&& (255 : Int32)).toUInt32.toUInt16.toUInt32.toInt32)).toInt8.toInt32) &&& (255 : Int32)).toUInt32.toUInt16.toUInt32.toInt32)))] h22 3 10
    refine RnS.liftC (fun vm0 hs r => have K := K.on hs; Rn.virt K (q := 119) (W := 1) (y := (⟨"java/lang/String", "charAt", "(I)C"⟩ : MethodName)) (z := (⟨"java/lang/String", "charAt", "(I)C"⟩ : MethodName)) (b := s) (argsL := [(.int (2 : Int32))]) (rest := [(.int (nar .char (nar .char ((nar .byte (nar .char ((p4 &&& (255 : Int32)).toUInt32.toUInt16.toUInt32.toInt32)).toInt8.toInt32) &&& (255 : Int32)).toUInt32.toUInt16.toUInt32.toInt32)))]) (List.mem_of_getElem? (i := 61) rfl) (List.mem_of_getElem? (i := 62) rfl) (nfs K (List.mem_of_getElem? (i := 64) rfl)) (List.mem_of_getElem? (i := 64) rfl) (List.mem_of_getElem? (i := 63) rfl) (List.mem_of_getElem? (i := 65) rfl) (List.mem_of_getElem? (i := 6) rfl) (by decide) (m_ch32 l Z a0 hw n0 h22 s v k cst (nar .byte (nar .char ((p2 &&& (255 : Int32)).toUInt32.toUInt16.toUInt32.toInt32)).toInt8.toInt32) (nar .byte (nar .char ((p3 &&& (255 : Int32)).toUInt32.toUInt16.toUInt32.toInt32)).toInt8.toInt32) (nar .byte (nar .char ((p4 &&& (255 : Int32)).toUInt32.toUInt16.toUInt32.toInt32)).toInt8.toInt32) fv hfv f28 SC hcs SQ E24 F25 F26 A27) E24 (by decide) (by decide) rfl (lenOf pd_18 rfl) rfl (Nat.le_of_ble_eq_true rfl) at_116 rfl (by decide) (by decide) r) (by rintro _ _ ⟨rfl, rfl⟩; exact own_kp0) ?_
    rintro _ _ ⟨rfl, rfl⟩
    show RnS w l _ n0 _ Z EL1 [] 119 #[.val (.int p1), .val (.int p2), .val (.int p3), .val (.int p4), .val (.int (3 : Int32)), .val (.int (p2 &&& (255 : Int32)).toUInt32.toUInt16.toUInt32.toInt32), .val (.int (p3 &&& (255 : Int32)).toUInt32.toUInt16.toUInt32.toInt32), .val (.int (p4 &&& (255 : Int32)).toUInt32.toUInt16.toUInt32.toInt32), .val (.ref s), .val (.ref s)] [(.int (nar .char (nar .char ((nar .byte (nar .char ((p4 &&& (255 : Int32)).toUInt32.toUInt16.toUInt32.toInt32)).toInt8.toInt32) &&& (255 : Int32)).toUInt32.toUInt16.toUInt32.toInt32))), (.int (nar .char (nar .char ((nar .byte (nar .char ((p4 &&& (255 : Int32)).toUInt32.toUInt16.toUInt32.toInt32)).toInt8.toInt32) &&& (255 : Int32)).toUInt32.toUInt16.toUInt32.toInt32)))] h22 3 10
    refine RnS.lift (fun vm0 hs r => have K := K.on hs; Rn.icN K (q := 122) at_119 (XT.ii_ne_f rfl) rfl r) ?_
    refine RnS.lift (fun vm0 hs r => have K := K.on hs; Rn.iconst K (q := 123) (1 : Int32) at_122 rfl rfl r) ?_
    refine RnS.lift (fun vm0 hs r => have K := K.on hs; Rn.goto K (q := 127) at_123 (by decide) (by decide) r) ?_
    exact RnS.retN K hEL .boolean rfl (by simp) at_127 (by decide) (by decide) rfl
set_option maxRecDepth 65536 in
set_option maxHeartbeats 40000000 in
theorem comes_1 {Post : Tables → Env → Array Value → State → Outcome → State → Prop} (hpost : ∀ tb e args s v u, (limb_1_1.after args s (.returned v) u = true ∧ limb_1_2.after args s (.returned v) u = true ∧ True) → ReturnedEndW s (.returned v) u (Jvm.fieldLocs frame_1_writes args s ++ Jvm.arrayLocs frame_1_arrays args s ++ Jvm.staticLocs frame_1_statics s) 16 1152 → Post tb e args s (.returned v) u) :
    ArmFor flags0 classFile x code maxLocals ret World_1 tables_1 room_1 Calls_1 rest_1 Pre_1 Post := by
  intro l hfl _ _ p e ha hc hk s m args below hf hA hF happ hP
  obtain ⟨hcalls, hrest, hpre⟩ := hP
  obtain ⟨-, -, -, hnamed, -, -, -, hat⟩ := (Spec.applies_iff hf).mp happ
  obtain ⟨hg, hn⟩ := and_e (Cond.before_iff.mp (show (Jvm.Cond.and given_1 narrow_1).before args s = true from hpre))
  obtain ⟨hcnt, hgs0⟩ := and_e hg
  obtain ⟨ga0, hgs1⟩ := and_e hgs0
  obtain ⟨ga1, hgs2⟩ := and_e hgs1
  obtain ⟨ga2, hgs3⟩ := and_e hgs2
  obtain ⟨w0, w1, w2, w3, rfl⟩ : ∃ w0 w1 w2 w3 : Value, args = #[w0, w1, w2, w3] := by
    have hs : args.size = 4 := by simpa [Cond.value, given_1] using hcnt
    obtain ⟨L⟩ := args
    match L, hs with
    | [w0, w1, w2, w3], _ => exact ⟨w0, w1, w2, w3, rfl⟩
  have hw := fun d (hd : d ∈ tables_1) => atoms_spec (ws := Jvm.Cond.code x code maxLocals ret :: tables_1) hat d (List.mem_cons_of_mem _ hd)
  have hfit : Fit s := fun {y c} hc i hi => by
    obtain ⟨ha, rfl⟩ := Array.getElem?_eq_some_iff.mp hc
    have q := List.all_eq_true.mp ((Array.all_eq_true_iff_forall_mem.mp hF) _ (Array.getElem_mem ha)) i (List.mem_range.mpr hi)
    simpa [Array.getElem?_eq_getElem hi] using q
  obtain ⟨hsets, hown0⟩ := atoms_of _ (rest_1_c_eq ▸ (show rest_1_c.before _ s = true from hrest))
  have hr0 := Cond.before_iff.mp hown0
  obtain ⟨i0, ei0⟩ := is_v ga0
  obtain rfl : w0 = (.int i0) := Option.some.inj ei0
  obtain ⟨i1, ei1⟩ := is_v ga1
  obtain rfl : w1 = (.int i1) := Option.some.inj ei1
  obtain ⟨i2, ei2⟩ := is_v ga2
  obtain rfl : w2 = (.int i2) := Option.some.inj ei2
  obtain ⟨i3, ei3⟩ := is_v hgs3
  obtain rfl : w3 = (.int i3) := Option.some.inj ei3
  obtain ⟨cst, vC⟩ := is_v (Cond.before_iff.mp (hsets _ (List.mem_of_getElem? (i := 1) rfl)))
  have SC := Sta.start vC (Or.inl (hsets _ (List.mem_of_getElem? (i := 0) rfl)))
  have hcs : ¬ cst = 0 := own_ne0 vC (Cond.before_iff.mp (hsets _ (List.mem_of_getElem? (i := 2) rfl)))
  obtain ⟨fv, vF, hfv⟩ := own_isRef (Cond.before_iff.mp (hsets _ (List.mem_of_getElem? (i := 8) rfl)))
  have SQ := Sta.start vF (Or.inl (hsets _ (List.mem_of_getElem? (i := 7) rfl)))
  obtain ⟨n, o, h1, h2, h3, _, L, rfl, ⟨N, rfl⟩, -, hq⟩ := m_law l s _ hw s.heap.size s.heap i0 i1 i2 i3 fv hfv cst (Old.start s) SC hcs SQ p e ha hc hk s m _ below hf ((Spec.applies_iff_loose hf).mp happ).1 ⟨rfl, State.Warmed39.refl s, rfl, CHv.start (own_EW hw) hcalls.1 (Cond.before_iff.mpr (Cond.before_iff.mp (hsets _ (List.mem_of_getElem? (i := 2) rfl)))) (hw _ (List.mem_of_getElem? (i := 19) rfl)) (hw _ (List.mem_of_getElem? (i := 5) rfl)), fun _ hx => by cases hx⟩ trivial
  refine ⟨n, _, h1, h2, h3, hpost _ _ _ _ _ _ ⟨Cond.after_iff.mpr rfl, Cond.after_iff.mpr (eq_i res_at (Term.int_eval (1)) rfl), trivial⟩ ⟨hq.1, hq.2.1, hq.2.2.1, (hq.2.2.2.sift fun y hy => Or.inr (N y hy)).mono (by decide) (by decide)⟩⟩
theorem main_1_1 : Claimed_1_1 := comes_1 fun _ _ _ _ _ _ h hF => ⟨h.1, hF⟩
theorem main_1_2 : Claimed_1_2 := comes_1 fun _ _ _ _ _ _ h hF => ⟨h.2.1, hF⟩
end Jvm.Pilot.@@N@@
namespace Jvm.Pilot.@@N@@
open Jvm Jvm.ClassFile Sem Op Lib Jvm.Free Jvm.Stand Jvm.Pilot.@@N@@.Jvm.D
/-! MADE BY PROGRAM (witnessworld.py) out of the Statement's table words and the real class files: 21 classes; the members and pool entries that the words name. The judged class is class 1, her method 2. -/
namespace start1
open Jvm.ClassFile
def u (s : String) : CpInfo := .utf8 (stringToUtf16 s)
/-- a pool by its gaps: so many unusable entries, then the entry; so many at the end -/
def gap : Nat → List CpInfo → List CpInfo
  | 0, r => r
  | n + 1, r => .unusable :: gap n r
def poolList (es : List (Nat × CpInfo)) (last : Nat) : List CpInfo := es.foldr (fun e r => gap e.1 (e.2 :: r)) (gap last [])
def pool (es : List (Nat × CpInfo)) (last : Nat) : Array CpInfo := ⟨poolList es last⟩
def fileOf (pool : Array CpInfo) (this : Nat) (attrs : Array Attribute := #[]) (ms : Array MethodInfo := #[]) (fl : Nat := 33) (sup : Nat := 0) (ifs : Array Nat := #[]) (fds : Array FieldInfo := #[]) : ClassFile where
  minorVersion := 0
  majorVersion := 65
  constantPool := pool
  accessFlags := fl
  thisClass := this
  superClass := sup
  interfaces := ifs
  fields := fds
  methods := ms
  attributes := attrs
def plain (name : String) (sup : Option ClassId) : Class where
  name := name
  kind := .ordinary
  loader := none
  accessFlags := 33
  super := sup
  interfaces := #[]
  cf := none
  fields := #[]
  methods := #[]
  instanceTypes := #[]
  staticTypes := #[]
  resolved := #[]
  callSites := []
  init := .initialized
  statics := none
  mirror := none

def pool0 : Array CpInfo := pool [(5, u "<init>"), (0, u "()V"), (1, .class_ 10), (1, u "java/lang/Object")] 113

def k0c0 : Code := { maxStack := 0, maxLocals := 1, code := object_method_1_code, exceptionTable := #[], attributes := #[] }
def k0m0 : Method := { name := "<init>", desc := "()V", sig := { parameters := [], returnType := none }, accessFlags := 1, code := some k0c0 }
/-- java/lang/Object -/
def k0 : Class := { plain "java/lang/Object" none with
  accessFlags := 33
  interfaces := #[]
  cf := some (fileOf pool0 8 #[] #[{ accessFlags := 1, nameIndex := 5, descriptorIndex := 6, attributes := #[] }] 33 0 #[] #[])
  fields := #[]
  methods := #[k0m0]
  instanceTypes := #[]
  staticTypes := #[]
  resolved := Array.replicate 124 none
  statics := none }

def pool1 : Array CpInfo := pool [(2, .class_ 4), (1, u "java/lang/Object"), (0, u "<init>"), (0, u "()V"), (0, .class_ 8), (0, u "java/lang/String"), (0, .methodref 7 10), (0, .nameAndType 5 11), (0, u "([C)V"), (0, .methodref 7 13), (0, .nameAndType 14 15), (0, u "valueOf"), (0, u "(C)Ljava/lang/String;"), (0, .methodref 17 18), (0, .class_ 19), (0, .nameAndType 20 21), (0, u "com/example/ballast/ballast/ColumnOrNonePinLaw"), (0, u "draw"), (0, u "(ICCC)Ljava/lang/String;"), (0, .methodref 23 24), (0, .class_ 25), (0, .nameAndType 26 27), (0, u "com/example/ballast/ballast/Column"), (0, u "orNone"), (0, u "(Ljava/lang/String;)Ljava/lang/String;"), (0, .methodref 7 29), (0, .nameAndType 30 31), (0, u "length"), (0, u "()I"), (0, .methodref 7 33), (0, .nameAndType 34 35), (0, u "equals"), (0, u "(Ljava/lang/Object;)Z"), (0, .methodref 7 37), (0, .nameAndType 38 39), (0, u "charAt"), (0, u "(I)C"), (3, u "law"), (0, u "(IIII)Z")] 2

def k1m0 : Method := { name := "<init>", desc := "()V", sig := { parameters := [], returnType := none }, accessFlags := 2, code := none }
def k1c1 : Code := { maxStack := 6, maxLocals := 4, code := method_2_code, exceptionTable := #[], attributes := #[] }
def k1m1 : Method := { name := "draw", desc := "(ICCC)Ljava/lang/String;", sig := { parameters := [.int, .char, .char, .char], returnType := some (.object "java/lang/String") }, accessFlags := 10, code := some k1c1 }
def k1c2 : Code := { maxStack := 4, maxLocals := 10, code := code, exceptionTable := #[], attributes := #[] }
def k1m2 : Method := { name := "law", desc := "(IIII)Z", sig := { parameters := [.int, .int, .int, .int], returnType := some .boolean }, accessFlags := 9, code := some k1c2 }
/-- com/example/ballast/ballast/ColumnOrNonePinLaw -/
def k1 : Class := { plain "com/example/ballast/ballast/ColumnOrNonePinLaw" (some 0) with
  accessFlags := 49
  interfaces := #[]
  cf := some (fileOf pool1 17 #[] #[{ accessFlags := 2, nameIndex := 5, descriptorIndex := 6, attributes := #[] }, { accessFlags := 10, nameIndex := 20, descriptorIndex := 21, attributes := #[] }, { accessFlags := 9, nameIndex := 43, descriptorIndex := 44, attributes := #[] }] 49 2 #[] #[])
  fields := #[]
  methods := #[k1m0, k1m1, k1m2]
  instanceTypes := #[]
  staticTypes := #[]
  resolved := Array.replicate 47 none
  statics := none }

def pool2 : Array CpInfo := pool [(1, .class_ 2), (0, u "java/io/Serializable"), (0, .class_ 4), (0, u "java/lang/Object")] 2

/-- java/io/Serializable -/
def k2 : Class := { plain "java/io/Serializable" (some 0) with
  accessFlags := 1537
  interfaces := #[]
  cf := some (fileOf pool2 1 #[] #[] 1537 3 #[] #[])
  fields := #[]
  methods := #[]
  instanceTypes := #[]
  staticTypes := #[]
  resolved := Array.replicate 7 none
  statics := none }

def pool3 : Array CpInfo := pool [(1, .class_ 2), (0, u "java/lang/Comparable"), (0, .class_ 4), (0, u "java/lang/Object")] 7

/-- java/lang/Comparable -/
def k3 : Class := { plain "java/lang/Comparable" (some 0) with
  accessFlags := 1537
  interfaces := #[]
  cf := some (fileOf pool3 1 #[] #[] 1537 3 #[] #[])
  fields := #[]
  methods := #[]
  instanceTypes := #[]
  staticTypes := #[]
  resolved := Array.replicate 12 none
  statics := none }

def pool4 : Array CpInfo := pool [(2, .class_ 4), (1, u "java/lang/CharSequence"), (42, .class_ 48), (0, u "java/lang/CharSequence$1CodePointIterator"), (10, .class_ 60), (0, u "java/lang/CharSequence$1CharIterator"), (5, .class_ 67), (0, u "java/lang/Object")] 63

/-- java/lang/CharSequence -/
def k4 : Class := { plain "java/lang/CharSequence" (some 0) with
  accessFlags := 1537
  interfaces := #[]
  cf := some (fileOf pool4 2 #[.nestMembers #[47, 59]] #[] 1537 66 #[] #[])
  fields := #[]
  methods := #[]
  instanceTypes := #[]
  staticTypes := #[]
  resolved := Array.replicate 131 none
  statics := none }

def pool5 : Array CpInfo := pool [(1, .class_ 2), (0, u "java/lang/constant/Constable"), (0, .class_ 4), (0, u "java/lang/Object")] 6

/-- java/lang/constant/Constable -/
def k5 : Class := { plain "java/lang/constant/Constable" (some 0) with
  accessFlags := 1537
  interfaces := #[]
  cf := some (fileOf pool5 1 #[] #[] 1537 3 #[] #[])
  fields := #[]
  methods := #[]
  instanceTypes := #[]
  staticTypes := #[]
  resolved := Array.replicate 11 none
  statics := none }

def pool6 : Array CpInfo := pool [(1, .class_ 2), (0, u "java/lang/constant/ConstantDesc"), (0, .class_ 4), (0, u "java/lang/Object")] 32

/-- java/lang/constant/ConstantDesc -/
def k6 : Class := { plain "java/lang/constant/ConstantDesc" (some 0) with
  accessFlags := 1537
  interfaces := #[]
  cf := some (fileOf pool6 1 #[] #[] 1537 3 #[] #[])
  fields := #[]
  methods := #[]
  instanceTypes := #[]
  staticTypes := #[]
  resolved := Array.replicate 37 none
  statics := none }

def pool7 : Array CpInfo := pool [(1, .methodref 2 3), (0, .class_ 4), (0, .nameAndType 5 6), (0, u "java/lang/Object"), (0, u "<init>"), (0, u "()V"), (0, .string 8), (0, u ""), (0, .fieldref 10 11), (0, .class_ 12), (0, .nameAndType 13 14), (0, u "java/lang/String"), (0, u "value"), (0, u "[B"), (0, .fieldref 10 16), (0, .nameAndType 17 18), (0, u "coder"), (0, u "B"), (2, u "hash"), (0, u "I"), (2, u "hashIsZero"), (0, u "Z"), (0, .methodref 10 28), (0, .nameAndType 5 29), (0, u "([CIILjava/lang/Void;)V"), (8, .fieldref 10 39), (0, .nameAndType 40 26), (0, u "COMPACT_STRINGS"), (1, .class_ 44), (1, u "java/lang/StringUTF16"), (0, u "compress"), (1, .methodref 42 48), (0, .nameAndType 49 50), (0, u "coderFromArrayLen"), (0, u "([BI)B"), (2, u "toBytes"), (53, .class_ 109), (1, u "java/lang/StringLatin1"), (32, u "()Z"), (34, .methodref 42 178), (0, .nameAndType 45 179), (0, u "([CII)[B"), (29, .methodref 10 210), (0, .nameAndType 5 211), (0, u "([BB)V"), (122, u "()I"), (0, .methodref 10 336), (0, .nameAndType 17 337), (0, u "()B"), (25, u "([BI)C"), (5, u "(C)Z"), (21, u "(II)V"), (35, u "(I)C"), (64, .methodref 10 493), (0, .nameAndType 494 142), (0, u "isLatin1"), (0, .methodref 107 496), (0, .nameAndType 497 363), (0, u "charAt"), (3, u "checkIndex"), (5, u "length"), (35, u "equals"), (29, u "(Ljava/lang/Object;)Z"), (1, .class_ 576), (0, u "java/lang/CharSequence"), (22, u "CASE_INSENSITIVE_ORDER"), (0, u "Ljava/util/Comparator;"), (91, u "isEmpty"), (89, u "valueOf"), (0, u "(C)Ljava/lang/String;"), (226, u "([C)V"), (4, .methodref 107 1016), (0, .nameAndType 1017 369), (0, u "canEncode"), (0, .methodref 107 1019), (0, .nameAndType 53 1020), (0, u "(C)[B"), (32, .fieldref 1054 1055), (0, .class_ 1056), (0, .nameAndType 1057 1058), (0, u "jdk/internal/util/Preconditions"), (0, u "SIOOBE_FORMATTER"), (0, u "Ljava/util/function/BiFunction;"), (0, .methodref 1054 1060), (0, .nameAndType 501 1061), (0, u "(IILjava/util/function/BiFunction;)I"), (39, u "serialPersistentFields"), (0, u "[Ljava/io/ObjectStreamField;"), (0, .class_ 1104), (0, u "java/lang/String$CaseInsensitiveComparator"), (1, .class_ 1107), (0, u "java/io/Serializable"), (0, .class_ 1109), (0, u "java/lang/Comparable"), (0, .class_ 1111), (0, u "java/lang/constant/Constable"), (0, .class_ 1113), (0, u "java/lang/constant/ConstantDesc"), (2, u "serialVersionUID"), (0, u "J"), (3, u "REPL"), (0, u "C"), (2, u "LATIN1"), (1, u "UTF16")] 323

def k7m0 : Method := { name := "<init>", desc := "()V", sig := { parameters := [], returnType := none }, accessFlags := 1, code := none }
def k7c1 : Code := { maxStack := 5, maxLocals := 2, code := jdk_42_method_3_code, exceptionTable := #[], attributes := #[] }
def k7m1 : Method := { name := "<init>", desc := "([C)V", sig := { parameters := [(.array .char)], returnType := none }, accessFlags := 1, code := some k7c1 }
def k7c2 : Code := { maxStack := 2, maxLocals := 1, code := jdk_42_method_54_code, exceptionTable := #[], attributes := #[] }
def k7m2 : Method := { name := "length", desc := "()I", sig := { parameters := [], returnType := some .int }, accessFlags := 1, code := some k7c2 }
def k7c3 : Code := { maxStack := 1, maxLocals := 1, code := jdk_42_method_55_code, exceptionTable := #[], attributes := #[] }
def k7m3 : Method := { name := "isEmpty", desc := "()Z", sig := { parameters := [], returnType := some .boolean }, accessFlags := 1, code := some k7c3 }
def k7c4 : Code := { maxStack := 2, maxLocals := 2, code := jdk_42_method_56_code, exceptionTable := #[], attributes := #[] }
def k7m4 : Method := { name := "charAt", desc := "(I)C", sig := { parameters := [.int], returnType := some .char }, accessFlags := 1, code := some k7c4 }
def k7c5 : Code := { maxStack := 2, maxLocals := 3, code := jdk_42_method_66_code, exceptionTable := #[], attributes := #[] }
def k7m5 : Method := { name := "equals", desc := "(Ljava/lang/Object;)Z", sig := { parameters := [(.object "java/lang/Object")], returnType := some .boolean }, accessFlags := 1, code := some k7c5 }
def k7c6 : Code := { maxStack := 4, maxLocals := 1, code := jdk_42_method_139_code, exceptionTable := #[], attributes := #[] }
def k7m6 : Method := { name := "valueOf", desc := "(C)Ljava/lang/String;", sig := { parameters := [.char], returnType := some (.object "java/lang/String") }, accessFlags := 9, code := some k7c6 }
def k7c7 : Code := { maxStack := 4, maxLocals := 6, code := jdk_42_method_149_code, exceptionTable := #[], attributes := #[] }
def k7m7 : Method := { name := "<init>", desc := "([CIILjava/lang/Void;)V", sig := { parameters := [(.array .char), .int, .int, (.object "java/lang/Void")], returnType := none }, accessFlags := 2, code := some k7c7 }
def k7c8 : Code := { maxStack := 2, maxLocals := 3, code := jdk_42_method_151_code, exceptionTable := #[], attributes := #[] }
def k7m8 : Method := { name := "<init>", desc := "([BB)V", sig := { parameters := [(.array .byte), .byte], returnType := none }, accessFlags := 0, code := some k7c8 }
def k7c9 : Code := { maxStack := 1, maxLocals := 1, code := jdk_42_method_152_code, exceptionTable := #[], attributes := #[] }
def k7m9 : Method := { name := "coder", desc := "()B", sig := { parameters := [], returnType := some .byte }, accessFlags := 0, code := some k7c9 }
def k7c10 : Code := { maxStack := 1, maxLocals := 1, code := jdk_42_method_154_code, exceptionTable := #[], attributes := #[] }
def k7m10 : Method := { name := "isLatin1", desc := "()Z", sig := { parameters := [], returnType := some .boolean }, accessFlags := 0, code := some k7c10 }
def k7c11 : Code := { maxStack := 3, maxLocals := 2, code := jdk_42_method_155_code, exceptionTable := #[], attributes := #[] }
def k7m11 : Method := { name := "checkIndex", desc := "(II)V", sig := { parameters := [.int, .int], returnType := none }, accessFlags := 8, code := some k7c11 }
/-- java/lang/String -/
def k7 : Class := { plain "java/lang/String" (some 0) with
  accessFlags := 49
  interfaces := #[2, 3, 4, 5, 6]
  cf := some (fileOf pool7 10 #[.nestMembers #[1103]] #[{ accessFlags := 1, nameIndex := 5, descriptorIndex := 6, attributes := #[] }, { accessFlags := 1, nameIndex := 5, descriptorIndex := 1010, attributes := #[] }, { accessFlags := 1, nameIndex := 507, descriptorIndex := 334, attributes := #[] }, { accessFlags := 1, nameIndex := 692, descriptorIndex := 142, attributes := #[] }, { accessFlags := 1, nameIndex := 497, descriptorIndex := 427, attributes := #[] }, { accessFlags := 1, nameIndex := 543, descriptorIndex := 573, attributes := #[] }, { accessFlags := 9, nameIndex := 782, descriptorIndex := 783, attributes := #[] }, { accessFlags := 2, nameIndex := 5, descriptorIndex := 29, attributes := #[] }, { accessFlags := 0, nameIndex := 5, descriptorIndex := 211, attributes := #[] }, { accessFlags := 0, nameIndex := 17, descriptorIndex := 337, attributes := #[] }, { accessFlags := 0, nameIndex := 494, descriptorIndex := 142, attributes := #[] }, { accessFlags := 8, nameIndex := 501, descriptorIndex := 391, attributes := #[] }] 49 2 #[1106, 1108, 575, 1110, 1112] #[{ accessFlags := 18, nameIndex := 13, descriptorIndex := 14, attributes := #[] }, { accessFlags := 18, nameIndex := 17, descriptorIndex := 18, attributes := #[] }, { accessFlags := 2, nameIndex := 21, descriptorIndex := 22, attributes := #[] }, { accessFlags := 2, nameIndex := 25, descriptorIndex := 26, attributes := #[] }, { accessFlags := 26, nameIndex := 1116, descriptorIndex := 1117, attributes := #[] }, { accessFlags := 24, nameIndex := 40, descriptorIndex := 26, attributes := #[] }, { accessFlags := 26, nameIndex := 1101, descriptorIndex := 1102, attributes := #[] }, { accessFlags := 26, nameIndex := 1121, descriptorIndex := 1122, attributes := #[] }, { accessFlags := 25, nameIndex := 599, descriptorIndex := 600, attributes := #[] }, { accessFlags := 24, nameIndex := 1125, descriptorIndex := 18, attributes := #[] }, { accessFlags := 24, nameIndex := 1127, descriptorIndex := 18, attributes := #[] }])
  fields := #[{ name := "value", type := (.array .byte), accessFlags := 18, slot := 0, constantValue := 0 }, { name := "coder", type := .byte, accessFlags := 18, slot := 1, constantValue := 0 }, { name := "hash", type := .int, accessFlags := 2, slot := 2, constantValue := 0 }, { name := "hashIsZero", type := .boolean, accessFlags := 2, slot := 3, constantValue := 0 }, { name := "serialVersionUID", type := .long, accessFlags := 26, slot := 0, constantValue := 0 }, { name := "COMPACT_STRINGS", type := .boolean, accessFlags := 24, slot := 1, constantValue := 0 }, { name := "serialPersistentFields", type := (.array (.object "java/io/ObjectStreamField")), accessFlags := 26, slot := 2, constantValue := 0 }, { name := "REPL", type := .char, accessFlags := 26, slot := 3, constantValue := 0 }, { name := "CASE_INSENSITIVE_ORDER", type := (.object "java/util/Comparator"), accessFlags := 25, slot := 4, constantValue := 0 }, { name := "LATIN1", type := .byte, accessFlags := 24, slot := 5, constantValue := 0 }, { name := "UTF16", type := .byte, accessFlags := 24, slot := 6, constantValue := 0 }]
  methods := #[k7m0, k7m1, k7m2, k7m3, k7m4, k7m5, k7m6, k7m7, k7m8, k7m9, k7m10, k7m11]
  instanceTypes := #[(.array .byte), .byte, .int, .boolean]
  staticTypes := #[.long, .boolean, (.array (.object "java/io/ObjectStreamField")), .char, (.object "java/util/Comparator"), .byte, .byte]
  resolved := Array.replicate 1451 none
  statics := some 0 }

def pool8 : Array CpInfo := pool [(2, .class_ 4), (1, u "java/lang/Object"), (0, u "<init>"), (0, u "()V"), (0, .class_ 8), (0, u "java/lang/Record")] 13

def k8m0 : Method := { name := "<init>", desc := "()V", sig := { parameters := [], returnType := none }, accessFlags := 4, code := none }
/-- java/lang/Record -/
def k8 : Class := { plain "java/lang/Record" (some 0) with
  accessFlags := 1057
  interfaces := #[]
  cf := some (fileOf pool8 7 #[] #[{ accessFlags := 4, nameIndex := 5, descriptorIndex := 6, attributes := #[] }] 1057 2 #[] #[])
  fields := #[]
  methods := #[k8m0]
  instanceTypes := #[]
  staticTypes := #[]
  resolved := Array.replicate 22 none
  statics := none }

def pool9 : Array CpInfo := pool [(2, .class_ 4), (1, u "java/lang/Record"), (3, u "name"), (7, u "value"), (1, .class_ 20), (1, u "com/example/ballast/ballast/Column"), (0, u "Ljava/lang/String;"), (2, u "Ljava/util/function/Function;"), (21, u "()Z"), (10, .methodref 58 59), (0, .class_ 60), (0, .nameAndType 61 46), (0, u "java/lang/String"), (0, u "isEmpty"), (22, u "orNone"), (0, u "(Ljava/lang/String;)Ljava/lang/String;")] 26

def k9c0 : Code := { maxStack := 1, maxLocals := 1, code := prog_12_method_3_code, exceptionTable := #[], attributes := #[] }
def k9m0 : Method := { name := "orNone", desc := "(Ljava/lang/String;)Ljava/lang/String;", sig := { parameters := [(.object "java/lang/String")], returnType := some (.object "java/lang/String") }, accessFlags := 8, code := some k9c0 }
/-- com/example/ballast/ballast/Column -/
def k9 : Class := { plain "com/example/ballast/ballast/Column" (some 8) with
  accessFlags := 49
  interfaces := #[]
  cf := some (fileOf pool9 18 #[] #[{ accessFlags := 8, nameIndex := 84, descriptorIndex := 85, attributes := #[] }] 49 2 #[] #[{ accessFlags := 18, nameIndex := 8, descriptorIndex := 21, attributes := #[] }, { accessFlags := 18, nameIndex := 16, descriptorIndex := 24, attributes := #[] }])
  fields := #[{ name := "name", type := (.object "java/lang/String"), accessFlags := 18, slot := 0, constantValue := 0 }, { name := "value", type := (.object "java/util/function/Function"), accessFlags := 18, slot := 1, constantValue := 0 }]
  methods := #[k9m0]
  instanceTypes := #[(.object "java/lang/String"), (.object "java/util/function/Function")]
  staticTypes := #[]
  resolved := Array.replicate 112 none
  statics := none }

def pool10 : Array CpInfo := pool [(6, .class_ 8), (1, u "java/lang/Object"), (0, u "<init>"), (0, u "()V"), (1, .class_ 14), (1, u "java/lang/StringUTF16"), (31, u "$assertionsDisabled"), (0, u "Z"), (13, u "HI_BYTE_SHIFT"), (0, u "I"), (2, u "LO_BYTE_SHIFT"), (49, .methodref 12 116), (0, .nameAndType 117 118), (0, u "compress"), (0, u "([CI[BII)I"), (3, u "([CII)[B"), (138, u "coderFromArrayLen"), (0, u "([BI)B"), (106, .class_ 371), (1, u "java/lang/StringUTF16$LinesSpliterator"), (58, u "MAX_LENGTH"), (196, .class_ 628), (0, u "java/lang/StringUTF16$CodePointsSpliterator"), (0, .class_ 630), (0, u "java/lang/StringUTF16$CharsSpliterator")] 4

def k10m0 : Method := { name := "<init>", desc := "()V", sig := { parameters := [], returnType := none }, accessFlags := 0, code := none }
def k10c1 : Code := { maxStack := 2, maxLocals := 2, code := jdk_52_method_15_code, exceptionTable := #[], attributes := #[] }
def k10m1 : Method := { name := "coderFromArrayLen", desc := "([BI)B", sig := { parameters := [(.array .byte), .int], returnType := some .byte }, accessFlags := 8, code := some k10c1 }
def k10c2 : Code := { maxStack := 5, maxLocals := 6, code := jdk_52_method_16_code, exceptionTable := #[], attributes := #[] }
def k10m2 : Method := { name := "compress", desc := "([CII)[B", sig := { parameters := [(.array .char), .int, .int], returnType := some (.array .byte) }, accessFlags := 9, code := some k10c2 }
def k10c3 : Code := { maxStack := 3, maxLocals := 7, code := jdk_52_method_21_code, exceptionTable := #[], attributes := #[] }
def k10m3 : Method := { name := "compress", desc := "([CI[BII)I", sig := { parameters := [(.array .char), .int, (.array .byte), .int, .int], returnType := some .int }, accessFlags := 9, code := some k10c3 }
/-- java/lang/StringUTF16 -/
def k10 : Class := { plain "java/lang/StringUTF16" (some 0) with
  accessFlags := 48
  interfaces := #[]
  cf := some (fileOf pool10 12 #[.nestMembers #[627, 629, 369]] #[{ accessFlags := 0, nameIndex := 9, descriptorIndex := 10, attributes := #[] }, { accessFlags := 8, nameIndex := 261, descriptorIndex := 262, attributes := #[] }, { accessFlags := 9, nameIndex := 117, descriptorIndex := 122, attributes := #[] }, { accessFlags := 9, nameIndex := 117, descriptorIndex := 118, attributes := #[] }] 48 6 #[] #[{ accessFlags := 26, nameIndex := 61, descriptorIndex := 62, attributes := #[] }, { accessFlags := 26, nameIndex := 65, descriptorIndex := 62, attributes := #[] }, { accessFlags := 24, nameIndex := 430, descriptorIndex := 62, attributes := #[] }, { accessFlags := 4120, nameIndex := 46, descriptorIndex := 47, attributes := #[] }])
  fields := #[{ name := "HI_BYTE_SHIFT", type := .int, accessFlags := 26, slot := 0, constantValue := 0 }, { name := "LO_BYTE_SHIFT", type := .int, accessFlags := 26, slot := 1, constantValue := 0 }, { name := "MAX_LENGTH", type := .int, accessFlags := 24, slot := 2, constantValue := 0 }, { name := "$assertionsDisabled", type := .boolean, accessFlags := 4120, slot := 3, constantValue := 0 }]
  methods := #[k10m0, k10m1, k10m2, k10m3]
  instanceTypes := #[]
  staticTypes := #[.int, .int, .int, .boolean]
  resolved := Array.replicate 635 none
  statics := none }

def pool11 : Array CpInfo := pool [(1, .class_ 2), (0, u "java/lang/String"), (1, .class_ 6), (1, u "java/lang/Object"), (0, u "<init>"), (0, u "()V"), (0, .methodref 1 10), (0, .nameAndType 11 12), (0, u "checkIndex"), (0, u "(II)V"), (1, .class_ 16), (1, u "java/lang/StringLatin1"), (36, u "([BI)C"), (36, u "canEncode"), (14, u "(C)Z"), (15, u "$assertionsDisabled"), (0, u "Z"), (98, .class_ 223), (1, u "java/lang/StringLatin1$LinesSpliterator"), (28, u "charAt"), (127, u "toBytes"), (1, u "(C)[B"), (7, .class_ 391), (0, u "java/lang/StringLatin1$CharsSpliterator")] 3

def k11m0 : Method := { name := "<init>", desc := "()V", sig := { parameters := [], returnType := none }, accessFlags := 0, code := none }
def k11c1 : Code := { maxStack := 2, maxLocals := 2, code := jdk_43_method_2_code, exceptionTable := #[], attributes := #[] }
def k11m1 : Method := { name := "charAt", desc := "([BI)C", sig := { parameters := [(.array .byte), .int], returnType := some .char }, accessFlags := 9, code := some k11c1 }
def k11c2 : Code := { maxStack := 2, maxLocals := 1, code := jdk_43_method_3_code, exceptionTable := #[], attributes := #[] }
def k11m2 : Method := { name := "canEncode", desc := "(C)Z", sig := { parameters := [.char], returnType := some .boolean }, accessFlags := 9, code := some k11c2 }
def k11c3 : Code := { maxStack := 4, maxLocals := 1, code := jdk_43_method_46_code, exceptionTable := #[], attributes := #[] }
def k11m3 : Method := { name := "toBytes", desc := "(C)[B", sig := { parameters := [.char], returnType := some (.array .byte) }, accessFlags := 9, code := some k11c3 }
/-- java/lang/StringLatin1 -/
def k11 : Class := { plain "java/lang/StringLatin1" (some 0) with
  accessFlags := 48
  interfaces := #[]
  cf := some (fileOf pool11 14 #[.nestMembers #[390, 221]] #[{ accessFlags := 0, nameIndex := 7, descriptorIndex := 8, attributes := #[] }, { accessFlags := 9, nameIndex := 252, descriptorIndex := 53, attributes := #[] }, { accessFlags := 9, nameIndex := 90, descriptorIndex := 105, attributes := #[] }, { accessFlags := 9, nameIndex := 380, descriptorIndex := 382, attributes := #[] }] 48 4 #[] #[{ accessFlags := 4120, nameIndex := 121, descriptorIndex := 122, attributes := #[] }])
  fields := #[{ name := "$assertionsDisabled", type := .boolean, accessFlags := 4120, slot := 0, constantValue := 0 }]
  methods := #[k11m0, k11m1, k11m2, k11m3]
  instanceTypes := #[]
  staticTypes := #[.boolean]
  resolved := Array.replicate 395 none
  statics := none }

def pool12 : Array CpInfo := pool [(2, .class_ 4), (1, u "java/lang/Object"), (0, u "<init>"), (0, u "()V"), (17, .class_ 26), (1, u "jdk/internal/util/Preconditions"), (6, u "checkIndex"), (21, .class_ 56), (0, u "jdk/internal/util/Preconditions$4"), (57, .class_ 115), (0, u "jdk/internal/util/Preconditions$1"), (7, u "SIOOBE_FORMATTER"), (0, u "Ljava/util/function/BiFunction;"), (0, .class_ 126), (0, u "jdk/internal/util/Preconditions$2"), (3, u "AIOOBE_FORMATTER"), (0, .class_ 132), (0, u "jdk/internal/util/Preconditions$3"), (3, u "IOOBE_FORMATTER"), (41, u "(IILjava/util/function/BiFunction;)I")] 15

def k12m0 : Method := { name := "<init>", desc := "()V", sig := { parameters := [], returnType := none }, accessFlags := 1, code := none }
def k12c1 : Code := { maxStack := 3, maxLocals := 3, code := jdk_41_method_11_code, exceptionTable := #[], attributes := #[] }
def k12m1 : Method := { name := "checkIndex", desc := "(IILjava/util/function/BiFunction;)I", sig := { parameters := [.int, .int, (.object "java/util/function/BiFunction")], returnType := some .int }, accessFlags := 9, code := some k12c1 }
/-- jdk/internal/util/Preconditions -/
def k12 : Class := { plain "jdk/internal/util/Preconditions" (some 0) with
  accessFlags := 33
  interfaces := #[]
  cf := some (fileOf pool12 24 #[.nestMembers #[55, 131, 125, 114]] #[{ accessFlags := 1, nameIndex := 5, descriptorIndex := 6, attributes := #[] }, { accessFlags := 9, nameIndex := 33, descriptorIndex := 178, attributes := #[] }] 33 2 #[] #[{ accessFlags := 25, nameIndex := 123, descriptorIndex := 124, attributes := #[] }, { accessFlags := 25, nameIndex := 130, descriptorIndex := 124, attributes := #[] }, { accessFlags := 25, nameIndex := 136, descriptorIndex := 124, attributes := #[] }])
  fields := #[{ name := "SIOOBE_FORMATTER", type := (.object "java/util/function/BiFunction"), accessFlags := 25, slot := 0, constantValue := 0 }, { name := "AIOOBE_FORMATTER", type := (.object "java/util/function/BiFunction"), accessFlags := 25, slot := 1, constantValue := 0 }, { name := "IOOBE_FORMATTER", type := (.object "java/util/function/BiFunction"), accessFlags := 25, slot := 2, constantValue := 0 }]
  methods := #[k12m0, k12m1]
  instanceTypes := #[]
  staticTypes := #[(.object "java/util/function/BiFunction"), (.object "java/util/function/BiFunction"), (.object "java/util/function/BiFunction")]
  resolved := Array.replicate 194 none
  statics := some 1 }

def pool13 : Array CpInfo := pool [(9, u "<init>"), (6, .class_ 18), (1, u "java/lang/Object"), (0, u "()V"), (1, .class_ 23), (1, u "jdk/internal/util/ArraysSupport"), (0, u "LOG2_ARRAY_LONG_INDEX_SCALE"), (0, u "I"), (2, u "U"), (0, u "Ljdk/internal/misc/Unsafe;"), (8, u "BIG_ENDIAN"), (0, u "Z"), (8, u "LOG2_BYTE_BIT_SIZE"), (4, u "LOG2_ARRAY_INT_INDEX_SCALE"), (54, u "JLA"), (0, u "Ljdk/internal/access/JavaLangAccess;"), (11, u "LOG2_ARRAY_BOOLEAN_INDEX_SCALE"), (9, u "LOG2_ARRAY_BYTE_INDEX_SCALE"), (5, u "LOG2_ARRAY_CHAR_INDEX_SCALE"), (5, u "LOG2_ARRAY_SHORT_INDEX_SCALE"), (18, u "LOG2_ARRAY_FLOAT_INDEX_SCALE"), (24, u "LOG2_ARRAY_DOUBLE_INDEX_SCALE"), (89, u "T_BOOLEAN"), (2, u "T_CHAR"), (1, u "T_FLOAT"), (1, u "T_DOUBLE"), (1, u "T_BYTE"), (1, u "T_SHORT"), (1, u "T_INT"), (1, u "T_LONG"), (1, u "SOFT_MAX_ARRAY_LENGTH")] 83

def k13m0 : Method := { name := "<init>", desc := "()V", sig := { parameters := [], returnType := none }, accessFlags := 2, code := none }
/-- jdk/internal/util/ArraysSupport -/
def k13 : Class := { plain "jdk/internal/util/ArraysSupport" (some 0) with
  accessFlags := 33
  interfaces := #[]
  cf := some (fileOf pool13 21 #[] #[{ accessFlags := 2, nameIndex := 9, descriptorIndex := 19, attributes := #[] }] 33 16 #[] #[{ accessFlags := 24, nameIndex := 28, descriptorIndex := 29, attributes := #[] }, { accessFlags := 26, nameIndex := 38, descriptorIndex := 39, attributes := #[] }, { accessFlags := 25, nameIndex := 121, descriptorIndex := 25, attributes := #[] }, { accessFlags := 25, nameIndex := 131, descriptorIndex := 25, attributes := #[] }, { accessFlags := 25, nameIndex := 137, descriptorIndex := 25, attributes := #[] }, { accessFlags := 25, nameIndex := 143, descriptorIndex := 25, attributes := #[] }, { accessFlags := 25, nameIndex := 53, descriptorIndex := 25, attributes := #[] }, { accessFlags := 25, nameIndex := 24, descriptorIndex := 25, attributes := #[] }, { accessFlags := 25, nameIndex := 162, descriptorIndex := 25, attributes := #[] }, { accessFlags := 25, nameIndex := 187, descriptorIndex := 25, attributes := #[] }, { accessFlags := 26, nameIndex := 48, descriptorIndex := 25, attributes := #[] }, { accessFlags := 25, nameIndex := 277, descriptorIndex := 25, attributes := #[] }, { accessFlags := 25, nameIndex := 280, descriptorIndex := 25, attributes := #[] }, { accessFlags := 25, nameIndex := 282, descriptorIndex := 25, attributes := #[] }, { accessFlags := 25, nameIndex := 284, descriptorIndex := 25, attributes := #[] }, { accessFlags := 25, nameIndex := 286, descriptorIndex := 25, attributes := #[] }, { accessFlags := 25, nameIndex := 288, descriptorIndex := 25, attributes := #[] }, { accessFlags := 25, nameIndex := 290, descriptorIndex := 25, attributes := #[] }, { accessFlags := 25, nameIndex := 292, descriptorIndex := 25, attributes := #[] }, { accessFlags := 26, nameIndex := 108, descriptorIndex := 109, attributes := #[] }, { accessFlags := 25, nameIndex := 294, descriptorIndex := 25, attributes := #[] }])
  fields := #[{ name := "U", type := (.object "jdk/internal/misc/Unsafe"), accessFlags := 24, slot := 0, constantValue := 0 }, { name := "BIG_ENDIAN", type := .boolean, accessFlags := 26, slot := 1, constantValue := 0 }, { name := "LOG2_ARRAY_BOOLEAN_INDEX_SCALE", type := .int, accessFlags := 25, slot := 2, constantValue := 0 }, { name := "LOG2_ARRAY_BYTE_INDEX_SCALE", type := .int, accessFlags := 25, slot := 3, constantValue := 0 }, { name := "LOG2_ARRAY_CHAR_INDEX_SCALE", type := .int, accessFlags := 25, slot := 4, constantValue := 0 }, { name := "LOG2_ARRAY_SHORT_INDEX_SCALE", type := .int, accessFlags := 25, slot := 5, constantValue := 0 }, { name := "LOG2_ARRAY_INT_INDEX_SCALE", type := .int, accessFlags := 25, slot := 6, constantValue := 0 }, { name := "LOG2_ARRAY_LONG_INDEX_SCALE", type := .int, accessFlags := 25, slot := 7, constantValue := 0 }, { name := "LOG2_ARRAY_FLOAT_INDEX_SCALE", type := .int, accessFlags := 25, slot := 8, constantValue := 0 }, { name := "LOG2_ARRAY_DOUBLE_INDEX_SCALE", type := .int, accessFlags := 25, slot := 9, constantValue := 0 }, { name := "LOG2_BYTE_BIT_SIZE", type := .int, accessFlags := 26, slot := 10, constantValue := 0 }, { name := "T_BOOLEAN", type := .int, accessFlags := 25, slot := 11, constantValue := 0 }, { name := "T_CHAR", type := .int, accessFlags := 25, slot := 12, constantValue := 0 }, { name := "T_FLOAT", type := .int, accessFlags := 25, slot := 13, constantValue := 0 }, { name := "T_DOUBLE", type := .int, accessFlags := 25, slot := 14, constantValue := 0 }, { name := "T_BYTE", type := .int, accessFlags := 25, slot := 15, constantValue := 0 }, { name := "T_SHORT", type := .int, accessFlags := 25, slot := 16, constantValue := 0 }, { name := "T_INT", type := .int, accessFlags := 25, slot := 17, constantValue := 0 }, { name := "T_LONG", type := .int, accessFlags := 25, slot := 18, constantValue := 0 }, { name := "JLA", type := (.object "jdk/internal/access/JavaLangAccess"), accessFlags := 26, slot := 19, constantValue := 0 }, { name := "SOFT_MAX_ARRAY_LENGTH", type := .int, accessFlags := 25, slot := 20, constantValue := 0 }]
  methods := #[k13m0]
  instanceTypes := #[]
  staticTypes := #[(.object "jdk/internal/misc/Unsafe"), .boolean, .int, .int, .int, .int, .int, .int, .int, .int, .int, .int, .int, .int, .int, .int, .int, .int, .int, (.object "jdk/internal/access/JavaLangAccess"), .int]
  resolved := Array.replicate 378 none
  statics := none }

def pool14 : Array CpInfo := pool [(1, u "java/lang/Cloneable"), (0, .class_ 1), (0, u "java/lang/Object"), (0, .class_ 3)] 3

/-- java/lang/Cloneable -/
def k14 : Class := { plain "java/lang/Cloneable" (some 0) with
  accessFlags := 1537
  interfaces := #[]
  cf := some (fileOf pool14 2 #[] #[] 1537 4 #[] #[])
  fields := #[]
  methods := #[]
  instanceTypes := #[]
  staticTypes := #[]
  resolved := Array.replicate 8 none
  statics := none }

/-- the primitive byte -/
def k15 : Class := { plain "byte" none with kind := .primitive 'B', accessFlags := 0x411 }
/-- [B -/
def k16 : Class := { plain "[B" (some 0) with kind := .array 15 .byte, interfaces := #[14, 2], accessFlags := 1041 }

/-- the primitive char -/
def k17 : Class := { plain "char" none with kind := .primitive 'C', accessFlags := 0x411 }
/-- [C -/
def k18 : Class := { plain "[C" (some 0) with kind := .array 17 .char, interfaces := #[14, 2], accessFlags := 1041 }

/-- the primitive int -/
def k19 : Class := { plain "int" none with kind := .primitive 'I', accessFlags := 0x411 }
/-- [I -/
def k20 : Class := { plain "[I" (some 0) with kind := .array 19 .int, interfaces := #[14, 2], accessFlags := 1041 }

def heap : Heap := #[{ cls := 7, slots := #[.long 0, .int 1, .null, .int 0, .null, .int 0, .int 0], vm := .statics 7 },
  { cls := 12, slots := #[.null, .null, .null], vm := .statics 12 }]
def classes : Array Class := #[k0, k1, k2, k3, k4, k5, k6, k7, k8, k9, k10, k11, k12, k13, k14, k15, k16, k17, k18, k19, k20]
def interned : List (Array UInt16 × Addr) := []
def slotsUsed : Nat := 10
def theMethod : MethodId := ⟨1, 2⟩
def args0 : Array Value := #[.int 5, .int 65, .int 66, .int 67]
def aboutOver (below : List Frame) : State where
  vm := { classes := classes, interned := interned.toArray }
  heap := heap
  slotsUsed := slotsUsed
  threads := #[{ frames := .invoking theMethod args0 :: below }]
def below0 : List Frame := [.native { method := ⟨0, 0⟩, args := #[] }]
def about1 : State := aboutOver below0
def p0 : Program := .bare "" "" ""
def e0 : Env := launch0.env 0 0 0
theorem w_frames : about1.frames = Frame.invoking theMethod args0 :: below0 := rfl
set_option maxRecDepth 65536 in
theorem w_args : argsFit about1.vm theMethod args0 = true := by decide +kernel
set_option maxRecDepth 65536 in
theorem w_heap : heapFits about1 = true := by decide +kernel
set_option maxRecDepth 65536 in
theorem w_runnable : about1.curStatus? = some .runnable := by decide +kernel
set_option maxRecDepth 65536 in
theorem w_alone : about1.alone = true := by decide +kernel
set_option maxRecDepth 65536 in
theorem w_named : about1.methodNamed? x = some theMethod := by decide +kernel
set_option maxRecDepth 65536 in
theorem w_hears : about1.hears theMethod below0 = true := by decide +kernel
set_option maxRecDepth 65536 in
theorem w_ripe : about1.ripe theMethod args0 below0 = true := by decide +kernel
theorem w_running : about1.status = .running := rfl
set_option maxRecDepth 65536 in
theorem w_room : about1.hasRoom e0.platform room_1 = true :=
  launch0.hasRoom_least _ room_1 (by decide +kernel) (by decide +kernel) (by decide +kernel) (by decide +kernel) (by decide +kernel) (by decide +kernel)
theorem allAtoms_all (ts : List Jvm.Cond) (a : Array Jvm.Value) (st : Jvm.State) : (allAtoms ts).before a st = ts.all (fun c => c.before a st) := by
  induction ts with
  | nil => rfl
  | cons c t ih =>
    show (Jvm.Cond.and c (allAtoms t)).before a st = _
    rw [Jvm.Cond.before_and, ih, List.all_cons]
def words1 : List Jvm.Cond := Jvm.Cond.code x code maxLocals ret :: tables_1
/-- a 'code' word, met by the world's own term for the bytes: nothing is compared byte by byte -/
theorem code_word {y : MethodName} {bytes : ByteArray} {mx : Nat} {rt : Option FieldType} {a : Array Value} {s : State} {m : MethodId} {meth : Method} {c : Code} (h1 : s.methodNamed? y = some m) (h2 : s.vm.method? m = some meth) (h3 : meth.code = some c) (h4 : c.code = bytes)
    (h5 : (c.maxLocals == mx && c.exceptionTable.isEmpty && decide (c.maxStack ≤ mostOperands) && decide (meth.sig.returnType = rt) && !meth.locks && decide (parseMethodDescriptor y.desc = some meth.sig)) = true) : (Jvm.Cond.code y bytes mx rt).before a s = true := by
  simp only [Bool.and_eq_true, beq_iff_eq, Bool.not_eq_true', decide_eq_true_eq] at h5
  obtain ⟨⟨⟨⟨⟨g1, g2⟩, g3⟩, g4⟩, g5⟩, g6⟩ := h5
  simp [Cond.before, Cond.holds, Cond.value, h1, h2, h3, h4, g1, g2, g3, g4, g5, g6]
def isCode : Jvm.Cond → Bool
  | .code _ _ _ _ => true
  | _ => false
theorem all_split {L : List Jvm.Cond} {P : Jvm.Cond → Bool} (h1 : L.all (fun c => isCode c || P c) = true) (h2 : ∀ c ∈ L.filter isCode, P c = true) : L.all P = true := by
  refine List.all_eq_true.mpr fun c hc => ?_
  have h := List.all_eq_true.mp h1 c hc
  rcases Bool.eq_false_or_eq_true (isCode c) with hi | hi
  · exact h2 c (List.mem_filter.mpr ⟨hc, hi⟩)
  · simpa [hi] using h
set_option maxRecDepth 65536 in
theorem w_c0 : (Jvm.Cond.code x code maxLocals ret).before args0 about1 = true := code_word (m := ⟨1, 2⟩) (meth := k1m2) (c := k1c2) (by decide +kernel) rfl rfl rfl (by decide +kernel)
set_option maxRecDepth 65536 in
theorem w_c1 : (Jvm.Cond.code ({ cls := "com/example/ballast/ballast/ColumnOrNonePinLaw", name := "draw", desc := "(ICCC)Ljava/lang/String;" } : Jvm.MethodName) method_2_code (4 : Nat) (Option.some (Jvm.ClassFile.FieldType.object "java/lang/String"))).before args0 about1 = true := code_word (m := ⟨1, 1⟩) (meth := k1m1) (c := k1c1) (by decide +kernel) rfl rfl rfl (by decide +kernel)
set_option maxRecDepth 65536 in
theorem w_c2 : (Jvm.Cond.code ({ cls := "java/lang/String", name := "<init>", desc := "([C)V" } : Jvm.MethodName) jdk_42_method_3_code (2 : Nat) (Option.none : Option Jvm.ClassFile.FieldType)).before args0 about1 = true := code_word (m := ⟨7, 1⟩) (meth := k7m1) (c := k7c1) (by decide +kernel) rfl rfl rfl (by decide +kernel)
set_option maxRecDepth 65536 in
theorem w_c3 : (Jvm.Cond.code ({ cls := "java/lang/String", name := "<init>", desc := "([CIILjava/lang/Void;)V" } : Jvm.MethodName) jdk_42_method_149_code (6 : Nat) (Option.none : Option Jvm.ClassFile.FieldType)).before args0 about1 = true := code_word (m := ⟨7, 7⟩) (meth := k7m7) (c := k7c7) (by decide +kernel) rfl rfl rfl (by decide +kernel)
set_option maxRecDepth 65536 in
theorem w_c4 : (Jvm.Cond.code ({ cls := "java/lang/Object", name := "<init>", desc := "()V" } : Jvm.MethodName) object_method_1_code (1 : Nat) (Option.none : Option Jvm.ClassFile.FieldType)).before args0 about1 = true := code_word (m := ⟨0, 0⟩) (meth := k0m0) (c := k0c0) (by decide +kernel) rfl rfl rfl (by decide +kernel)
set_option maxRecDepth 65536 in
theorem w_c5 : (Jvm.Cond.code ({ cls := "com/example/ballast/ballast/Column", name := "orNone", desc := "(Ljava/lang/String;)Ljava/lang/String;" } : Jvm.MethodName) prog_12_method_3_code (1 : Nat) (Option.some (Jvm.ClassFile.FieldType.object "java/lang/String"))).before args0 about1 = true := code_word (m := ⟨9, 0⟩) (meth := k9m0) (c := k9c0) (by decide +kernel) rfl rfl rfl (by decide +kernel)
set_option maxRecDepth 65536 in
theorem w_c6 : (Jvm.Cond.code ({ cls := "java/lang/String", name := "isEmpty", desc := "()Z" } : Jvm.MethodName) jdk_42_method_55_code (1 : Nat) (Option.some Jvm.ClassFile.FieldType.boolean)).before args0 about1 = true := code_word (m := ⟨7, 3⟩) (meth := k7m3) (c := k7c3) (by decide +kernel) rfl rfl rfl (by decide +kernel)
set_option maxRecDepth 65536 in
theorem w_c7 : (Jvm.Cond.code ({ cls := "java/lang/StringUTF16", name := "compress", desc := "([CII)[B" } : Jvm.MethodName) jdk_52_method_16_code (6 : Nat) (Option.some (Jvm.ClassFile.FieldType.array Jvm.ClassFile.FieldType.byte))).before args0 about1 = true := code_word (m := ⟨10, 2⟩) (meth := k10m2) (c := k10c2) (by decide +kernel) rfl rfl rfl (by decide +kernel)
set_option maxRecDepth 65536 in
theorem w_c8 : (Jvm.Cond.code ({ cls := "java/lang/StringUTF16", name := "compress", desc := "([CI[BII)I" } : Jvm.MethodName) jdk_52_method_21_code (7 : Nat) (Option.some Jvm.ClassFile.FieldType.int)).before args0 about1 = true := code_word (m := ⟨10, 3⟩) (meth := k10m3) (c := k10c3) (by decide +kernel) rfl rfl rfl (by decide +kernel)
set_option maxRecDepth 65536 in
theorem w_c9 : (Jvm.Cond.code ({ cls := "java/lang/StringUTF16", name := "coderFromArrayLen", desc := "([BI)B" } : Jvm.MethodName) jdk_52_method_15_code (2 : Nat) (Option.some Jvm.ClassFile.FieldType.byte)).before args0 about1 = true := code_word (m := ⟨10, 1⟩) (meth := k10m1) (c := k10c1) (by decide +kernel) rfl rfl rfl (by decide +kernel)
set_option maxRecDepth 65536 in
theorem w_c10 : (Jvm.Cond.code ({ cls := "java/lang/String", name := "length", desc := "()I" } : Jvm.MethodName) jdk_42_method_54_code (1 : Nat) (Option.some Jvm.ClassFile.FieldType.int)).before args0 about1 = true := code_word (m := ⟨7, 2⟩) (meth := k7m2) (c := k7c2) (by decide +kernel) rfl rfl rfl (by decide +kernel)
set_option maxRecDepth 65536 in
theorem w_c11 : (Jvm.Cond.code ({ cls := "java/lang/String", name := "coder", desc := "()B" } : Jvm.MethodName) jdk_42_method_152_code (1 : Nat) (Option.some Jvm.ClassFile.FieldType.byte)).before args0 about1 = true := code_word (m := ⟨7, 9⟩) (meth := k7m9) (c := k7c9) (by decide +kernel) rfl rfl rfl (by decide +kernel)
set_option maxRecDepth 65536 in
theorem w_c12 : (Jvm.Cond.code ({ cls := "java/lang/String", name := "equals", desc := "(Ljava/lang/Object;)Z" } : Jvm.MethodName) jdk_42_method_66_code (3 : Nat) (Option.some Jvm.ClassFile.FieldType.boolean)).before args0 about1 = true := code_word (m := ⟨7, 5⟩) (meth := k7m5) (c := k7c5) (by decide +kernel) rfl rfl rfl (by decide +kernel)
set_option maxRecDepth 65536 in
theorem w_c13 : (Jvm.Cond.code ({ cls := "java/lang/String", name := "charAt", desc := "(I)C" } : Jvm.MethodName) jdk_42_method_56_code (2 : Nat) (Option.some Jvm.ClassFile.FieldType.char)).before args0 about1 = true := code_word (m := ⟨7, 4⟩) (meth := k7m4) (c := k7c4) (by decide +kernel) rfl rfl rfl (by decide +kernel)
set_option maxRecDepth 65536 in
theorem w_c14 : (Jvm.Cond.code ({ cls := "java/lang/String", name := "isLatin1", desc := "()Z" } : Jvm.MethodName) jdk_42_method_154_code (1 : Nat) (Option.some Jvm.ClassFile.FieldType.boolean)).before args0 about1 = true := code_word (m := ⟨7, 10⟩) (meth := k7m10) (c := k7c10) (by decide +kernel) rfl rfl rfl (by decide +kernel)
set_option maxRecDepth 65536 in
theorem w_c15 : (Jvm.Cond.code ({ cls := "java/lang/StringLatin1", name := "charAt", desc := "([BI)C" } : Jvm.MethodName) jdk_43_method_2_code (2 : Nat) (Option.some Jvm.ClassFile.FieldType.char)).before args0 about1 = true := code_word (m := ⟨11, 1⟩) (meth := k11m1) (c := k11c1) (by decide +kernel) rfl rfl rfl (by decide +kernel)
set_option maxRecDepth 65536 in
theorem w_c16 : (Jvm.Cond.code ({ cls := "java/lang/String", name := "checkIndex", desc := "(II)V" } : Jvm.MethodName) jdk_42_method_155_code (2 : Nat) (Option.none : Option Jvm.ClassFile.FieldType)).before args0 about1 = true := code_word (m := ⟨7, 11⟩) (meth := k7m11) (c := k7c11) (by decide +kernel) rfl rfl rfl (by decide +kernel)
set_option maxRecDepth 65536 in
theorem w_c17 : (Jvm.Cond.code ({ cls := "jdk/internal/util/Preconditions", name := "checkIndex", desc := "(IILjava/util/function/BiFunction;)I" } : Jvm.MethodName) jdk_41_method_11_code (3 : Nat) (Option.some Jvm.ClassFile.FieldType.int)).before args0 about1 = true := code_word (m := ⟨12, 1⟩) (meth := k12m1) (c := k12c1) (by decide +kernel) rfl rfl rfl (by decide +kernel)
set_option maxRecDepth 65536 in
theorem w_c18 : (Jvm.Cond.code ({ cls := "java/lang/String", name := "valueOf", desc := "(C)Ljava/lang/String;" } : Jvm.MethodName) jdk_42_method_139_code (1 : Nat) (Option.some (Jvm.ClassFile.FieldType.object "java/lang/String"))).before args0 about1 = true := code_word (m := ⟨7, 6⟩) (meth := k7m6) (c := k7c6) (by decide +kernel) rfl rfl rfl (by decide +kernel)
set_option maxRecDepth 65536 in
theorem w_c19 : (Jvm.Cond.code ({ cls := "java/lang/StringLatin1", name := "canEncode", desc := "(C)Z" } : Jvm.MethodName) jdk_43_method_3_code (1 : Nat) (Option.some Jvm.ClassFile.FieldType.boolean)).before args0 about1 = true := code_word (m := ⟨11, 2⟩) (meth := k11m2) (c := k11c2) (by decide +kernel) rfl rfl rfl (by decide +kernel)
set_option maxRecDepth 65536 in
theorem w_c20 : (Jvm.Cond.code ({ cls := "java/lang/StringLatin1", name := "toBytes", desc := "(C)[B" } : Jvm.MethodName) jdk_43_method_46_code (1 : Nat) (Option.some (Jvm.ClassFile.FieldType.array Jvm.ClassFile.FieldType.byte))).before args0 about1 = true := code_word (m := ⟨11, 3⟩) (meth := k11m3) (c := k11c3) (by decide +kernel) rfl rfl rfl (by decide +kernel)
set_option maxRecDepth 65536 in
theorem w_c21 : (Jvm.Cond.code ({ cls := "java/lang/String", name := "<init>", desc := "([BB)V" } : Jvm.MethodName) jdk_42_method_151_code (3 : Nat) (Option.none : Option Jvm.ClassFile.FieldType)).before args0 about1 = true := code_word (m := ⟨7, 8⟩) (meth := k7m8) (c := k7c8) (by decide +kernel) rfl rfl rfl (by decide +kernel)
def codes1 : List Jvm.Cond := [Jvm.Cond.code x code maxLocals ret, Jvm.Cond.code ({ cls := "com/example/ballast/ballast/ColumnOrNonePinLaw", name := "draw", desc := "(ICCC)Ljava/lang/String;" } : Jvm.MethodName) method_2_code (4 : Nat) (Option.some (Jvm.ClassFile.FieldType.object "java/lang/String")), Jvm.Cond.code ({ cls := "java/lang/String", name := "<init>", desc := "([C)V" } : Jvm.MethodName) jdk_42_method_3_code (2 : Nat) (Option.none : Option Jvm.ClassFile.FieldType), Jvm.Cond.code ({ cls := "java/lang/String", name := "<init>", desc := "([CIILjava/lang/Void;)V" } : Jvm.MethodName) jdk_42_method_149_code (6 : Nat) (Option.none : Option Jvm.ClassFile.FieldType), Jvm.Cond.code ({ cls := "java/lang/Object", name := "<init>", desc := "()V" } : Jvm.MethodName) object_method_1_code (1 : Nat) (Option.none : Option Jvm.ClassFile.FieldType), Jvm.Cond.code ({ cls := "com/example/ballast/ballast/Column", name := "orNone", desc := "(Ljava/lang/String;)Ljava/lang/String;" } : Jvm.MethodName) prog_12_method_3_code (1 : Nat) (Option.some (Jvm.ClassFile.FieldType.object "java/lang/String")), Jvm.Cond.code ({ cls := "java/lang/String", name := "isEmpty", desc := "()Z" } : Jvm.MethodName) jdk_42_method_55_code (1 : Nat) (Option.some Jvm.ClassFile.FieldType.boolean), Jvm.Cond.code ({ cls := "java/lang/StringUTF16", name := "compress", desc := "([CII)[B" } : Jvm.MethodName) jdk_52_method_16_code (6 : Nat) (Option.some (Jvm.ClassFile.FieldType.array Jvm.ClassFile.FieldType.byte)), Jvm.Cond.code ({ cls := "java/lang/StringUTF16", name := "compress", desc := "([CI[BII)I" } : Jvm.MethodName) jdk_52_method_21_code (7 : Nat) (Option.some Jvm.ClassFile.FieldType.int), Jvm.Cond.code ({ cls := "java/lang/StringUTF16", name := "coderFromArrayLen", desc := "([BI)B" } : Jvm.MethodName) jdk_52_method_15_code (2 : Nat) (Option.some Jvm.ClassFile.FieldType.byte), Jvm.Cond.code ({ cls := "java/lang/String", name := "length", desc := "()I" } : Jvm.MethodName) jdk_42_method_54_code (1 : Nat) (Option.some Jvm.ClassFile.FieldType.int), Jvm.Cond.code ({ cls := "java/lang/String", name := "coder", desc := "()B" } : Jvm.MethodName) jdk_42_method_152_code (1 : Nat) (Option.some Jvm.ClassFile.FieldType.byte), Jvm.Cond.code ({ cls := "java/lang/String", name := "equals", desc := "(Ljava/lang/Object;)Z" } : Jvm.MethodName) jdk_42_method_66_code (3 : Nat) (Option.some Jvm.ClassFile.FieldType.boolean), Jvm.Cond.code ({ cls := "java/lang/String", name := "charAt", desc := "(I)C" } : Jvm.MethodName) jdk_42_method_56_code (2 : Nat) (Option.some Jvm.ClassFile.FieldType.char), Jvm.Cond.code ({ cls := "java/lang/String", name := "isLatin1", desc := "()Z" } : Jvm.MethodName) jdk_42_method_154_code (1 : Nat) (Option.some Jvm.ClassFile.FieldType.boolean), Jvm.Cond.code ({ cls := "java/lang/StringLatin1", name := "charAt", desc := "([BI)C" } : Jvm.MethodName) jdk_43_method_2_code (2 : Nat) (Option.some Jvm.ClassFile.FieldType.char), Jvm.Cond.code ({ cls := "java/lang/String", name := "checkIndex", desc := "(II)V" } : Jvm.MethodName) jdk_42_method_155_code (2 : Nat) (Option.none : Option Jvm.ClassFile.FieldType), Jvm.Cond.code ({ cls := "jdk/internal/util/Preconditions", name := "checkIndex", desc := "(IILjava/util/function/BiFunction;)I" } : Jvm.MethodName) jdk_41_method_11_code (3 : Nat) (Option.some Jvm.ClassFile.FieldType.int), Jvm.Cond.code ({ cls := "java/lang/String", name := "valueOf", desc := "(C)Ljava/lang/String;" } : Jvm.MethodName) jdk_42_method_139_code (1 : Nat) (Option.some (Jvm.ClassFile.FieldType.object "java/lang/String")), Jvm.Cond.code ({ cls := "java/lang/StringLatin1", name := "canEncode", desc := "(C)Z" } : Jvm.MethodName) jdk_43_method_3_code (1 : Nat) (Option.some Jvm.ClassFile.FieldType.boolean), Jvm.Cond.code ({ cls := "java/lang/StringLatin1", name := "toBytes", desc := "(C)[B" } : Jvm.MethodName) jdk_43_method_46_code (1 : Nat) (Option.some (Jvm.ClassFile.FieldType.array Jvm.ClassFile.FieldType.byte)), Jvm.Cond.code ({ cls := "java/lang/String", name := "<init>", desc := "([BB)V" } : Jvm.MethodName) jdk_42_method_151_code (3 : Nat) (Option.none : Option Jvm.ClassFile.FieldType)]
set_option maxRecDepth 65536 in
theorem codes_eq : words1.filter isCode = codes1 := rfl
theorem w_codes : ∀ c ∈ words1.filter isCode, c.before args0 about1 = true := by
  rw [codes_eq]
  intro c hc
  simp only [codes1, List.mem_cons, List.not_mem_nil, or_false] at hc
  rcases hc with rfl | rfl | rfl | rfl | rfl | rfl | rfl | rfl | rfl | rfl | rfl | rfl | rfl | rfl | rfl | rfl | rfl | rfl | rfl | rfl | rfl | rfl
  · exact w_c0
  · exact w_c1
  · exact w_c2
  · exact w_c3
  · exact w_c4
  · exact w_c5
  · exact w_c6
  · exact w_c7
  · exact w_c8
  · exact w_c9
  · exact w_c10
  · exact w_c11
  · exact w_c12
  · exact w_c13
  · exact w_c14
  · exact w_c15
  · exact w_c16
  · exact w_c17
  · exact w_c18
  · exact w_c19
  · exact w_c20
  · exact w_c21
set_option maxRecDepth 65536 in
theorem w_t1 : (words1.take 24).all (fun c => isCode c || c.before args0 about1) = true := by decide +kernel
set_option maxRecDepth 65536 in
theorem w_t2 : ((words1.drop 24).take 24).all (fun c => isCode c || c.before args0 about1) = true := by decide +kernel
set_option maxRecDepth 65536 in
theorem w_t3 : (((words1.drop 24).drop 24).take 24).all (fun c => isCode c || c.before args0 about1) = true := by decide +kernel
set_option maxRecDepth 65536 in
theorem w_t4 : ((((words1.drop 24).drop 24).drop 24).take 24).all (fun c => isCode c || c.before args0 about1) = true := by decide +kernel
set_option maxRecDepth 65536 in
theorem w_t5 : ((((words1.drop 24).drop 24).drop 24).drop 24).all (fun c => isCode c || c.before args0 about1) = true := by decide +kernel
theorem w_tables : (allAtoms (Jvm.Cond.code x code maxLocals ret :: tables_1)).before args0 about1 = true := by
  rw [allAtoms_all]
  show words1.all (fun c => c.before args0 about1) = true
  refine all_split ?_ w_codes
  rw [← List.take_append_drop 24 words1, List.all_append, w_t1, ← List.take_append_drop 24 (words1.drop 24), List.all_append, w_t2, ← List.take_append_drop 24 ((words1.drop 24).drop 24), List.all_append, w_t3, ← List.take_append_drop 24 (((words1.drop 24).drop 24).drop 24), List.all_append, w_t4, w_t5]
  rfl
set_option maxRecDepth 65536 in
theorem w_rest : rest_1_c.before args0 about1 = true := by decide +kernel
set_option maxRecDepth 65536 in
theorem w_case : (Jvm.Cond.and given_1 narrow_1).before args0 about1 = true := by decide +kernel
set_option maxRecDepth 65536 in
theorem w_consts : constsHeld consts_1 about1 := Jvm.Lit.constsHeldB_iff.mp (by decide +kernel)
theorem w_applies : (headSpec (Jvm.Cond.code x code maxLocals ret :: tables_1) room_1).applies x e0.platform about1 = true :=
  (Spec.applies_iff w_frames).mpr ⟨w_running, w_runnable, w_alone, w_named, w_hears, w_ripe, w_room, w_tables⟩
theorem atStart : AtStart classFile x code maxLocals ret World_1 tables_1 room_1 Calls_1 rest_1 Pre_1 launch0 p0 e0 about1 theMethod args0 below0 :=
  ⟨lists_1, trivial, launch0.admits_env _ _ _, launch0.least_env, fairChoices_fair.cas, fairChoices_fair.clock, w_frames, w_args, w_heap, w_applies, ⟨w_consts, trivial⟩, w_rest, w_case⟩
end start1
theorem witness_1 : WitnessClaimed_1 := ⟨start1.p0, start1.e0, start1.about1, start1.theMethod, start1.args0, start1.below0, start1.atStart⟩
end Jvm.Pilot.@@N@@
