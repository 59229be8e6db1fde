import JvmDerived
import JvmDerived.Pilot.@@N@@Statement
import JvmDerived.Pilot.@@N@@Code
set_option linter.unusedVariables false
set_option linter.unusedSimpArgs false
namespace Jvm.RoadKit
open Sem ClassFile Op Lib Jvm.Stand Jvm.Free Jvm.LawKit
section New
variable {p : Program} {l : Launch} {e : Env} {R : Room} {s : State} {m : MethodId} {args : Array Value} {below : List Frame} {meth : Method} {c : Code} {T : State} {locs : List Loc} {cells slots : Nat}
theorem retI (X : Stand p l e R s m args below meth c T locs cells slots) (hx : p.tables.exec = Jvm.exec) {pc : Nat} {Ls : Array Slot} {z : Int32} {rest : List Value} (hret : meth.sig.returnType = some .int) (hd : decode c.code pc = .ok (.ireturn, 1)) {fs : List Frame}
    (hl : ∀ (f : JFrame) (acts : List Action), f.method = m → f.locked = none → f.entered = [] → (doReturn e (T.setTop f) acts (some (.int z))).1 = T.setFrames fs) : Steps p.tables e below (T.setTop (mkF m pc Ls (.int z :: rest))) (T.setFrames fs) := by
  have hm' : T.vm.method? m = some meth := X.method'
  have hn : narrow .int (.int z) = .int z := rfl
  show Steps p.tables e below (T.setTop { method := m, pc := pc, locals := Ls, stack := _ :: rest, locked := none }) _
  jvm_step X.here [X.here.top, hx, hd, hm', hret, hn]
  first | (intro acts; rw [hl _ acts rfl rfl rfl]) | rw [hl _ _ rfl rfl rfl]
  exact Steps.refl _
end New
end Jvm.RoadKit
namespace Jvm.Pilot.@@N@@
open Jvm Jvm.ClassFile Sem Op Lib Jvm.Free Jvm.Stand Jvm.LawKit Jvm.RoadKit Bundle Jvm.Pilot.@@N@@.Jvm.D
section OwnKit
/-! The own kit: a walk as one relation 'Rn' on (pc, locals, stack, heap): "from here the body runs to its promise". Each row is a library law read backwards, so that a walk may fork anywhere. -/
abbrev Wk : Type := Program × Env × State × MethodId × Array Value × List Frame × Method × Code
abbrev Wk.p (w : Wk) : Program := w.1
abbrev Wk.e (w : Wk) : Env := w.2.1
abbrev Wk.s (w : Wk) : State := w.2.2.1
abbrev Wk.m (w : Wk) : MethodId := w.2.2.2.1
abbrev Wk.a (w : Wk) : Array Value := w.2.2.2.2.1
abbrev Wk.b (w : Wk) : List Frame := w.2.2.2.2.2.1
abbrev Wk.t (w : Wk) : Method := w.2.2.2.2.2.2.1
abbrev Wk.c (w : Wk) : Code := w.2.2.2.2.2.2.2
/-- the run from (pc, Ls, S) over the heap h, with cs cells and ss slots made so far, ends in Q -/
def Rn (w : Wk) (l : Launch) (R : Room) (n0 : Nat) (Q : Option Value → Heap → Prop) (pc : Nat) (Ls : Array Slot) (S : List Value) (h : Heap) (cs ss : Nat) : Prop :=
  ∀ (T : State) (locs : List Loc), Stand w.p l w.e R w.s w.m w.a w.b w.t w.c T locs cs ss → T.heap = h → Fr n0 locs →
    ∃ s₂ o, Steps w.p.tables w.e w.b (T.setTop (mkF w.m pc Ls S)) s₂ ∧ s₂.status = .running ∧ Ended s₂ w.b o ∧ ∃ v L, o = .returned v ∧ (Fr n0 L ∧ Q v s₂.heap) ∧ FrameEnd w.s o s₂ L R.cells R.slots
/-- what stands throughout the walk of one body -/
def Cx (w : Wk) (Z : State) (a0 : Array Value) (own : String) (bytes : ByteArray) (ml : Nat) (rt : Option FieldType) (nm : String) : Prop :=
  w.p.tables.exec = Jvm.exec ∧ w.c.code = bytes ∧ w.c.maxLocals = ml ∧ w.s.vm.findClass own = some w.m.cls ∧ Z.Warmed39 w.s.vm ∧ w.t.sig.returnType = rt ∧ w.t.locks = false ∧ w.t.name = nm ∧ ∀ d ∈ tables_1, d.before a0 Z = true
/-- a body's contract at the arguments as' over the heap h0 -/
def Met (l : Launch) (Z : State) (y : MethodName) (bytes : ByteArray) (ml : Nat) (rt : Option FieldType) (rm : Room) (n0 : Nat) (ws : List Jvm.Cond) (as' : Array Value) (h0 : Heap) (Q : Option Value → Heap → Prop) : Prop :=
  MetFree l y (head1 (Jvm.Cond.code y bytes ml rt :: ws) rm) (fun a U => a = as' ∧ Z.Warmed39 U.vm ∧ U.heap = h0) (fun _ _ _ _ _ => True) (fun _ U o U' => ∃ v L, o = .returned v ∧ (Fr n0 L ∧ Q v U'.heap) ∧ FrameEnd U o U' L rm.cells rm.slots)
variable {w : Wk} {l : Launch} {R : Room} {n0 : Nat} {Q : Option Value → Heap → Prop} {pc q : Nat} {Ls Ls' : Array Slot} {S : List Value} {h : Heap} {cs ss : Nat} {Z : State} {a0 : Array Value} {own : String} {bytes : ByteArray} {ml : Nat} {rt : Option FieldType} {nm : String}
theorem Cx.x (K : Cx w Z a0 own bytes ml rt nm) : w.p.tables.exec = Jvm.exec := K.1
theorem Cx.cd (K : Cx w Z a0 own bytes ml rt nm) : w.c.code = bytes := K.2.1
theorem Cx.mx (K : Cx w Z a0 own bytes ml rt nm) : w.c.maxLocals = ml := K.2.2.1
theorem Cx.ow (K : Cx w Z a0 own bytes ml rt nm) : w.s.vm.findClass own = some w.m.cls := K.2.2.2.1
theorem Cx.z (K : Cx w Z a0 own bytes ml rt nm) : Z.Warmed39 w.s.vm := K.2.2.2.2.1
theorem Cx.ret (K : Cx w Z a0 own bytes ml rt nm) : w.t.sig.returnType = rt := K.2.2.2.2.2.1
theorem Cx.lk (K : Cx w Z a0 own bytes ml rt nm) : w.t.locks = false := K.2.2.2.2.2.2.1
theorem Cx.nme (K : Cx w Z a0 own bytes ml rt nm) : w.t.name = nm := K.2.2.2.2.2.2.2.1
theorem Cx.hw (K : Cx w Z a0 own bytes ml rt nm) : ∀ d ∈ tables_1, d.before a0 Z = true := K.2.2.2.2.2.2.2.2
theorem Met.intro {y : MethodName} {as' : Array Value} {h0 : Heap} {rm : Room} {ws : List Jvm.Cond} (hp : plainFor y = true) (hw : ∀ d ∈ tables_1, d.before a0 Z = true) (ef : ∀ m, entryFrame m as' ml = mkF m 0 Ls [])
    (k : ∀ w : Wk, Cx w Z a0 y.cls bytes ml rt y.name → Rn w l rm n0 Q 0 Ls [] h0 0 0) : Met l Z y bytes ml rt rm n0 ws as' h0 Q := by
  refine MetFree.of_bodySF hp hisR ?_
  intro p e s m args below meth c s₁ Bd hml0 hP hK
  obtain ⟨ha, hZ, hh⟩ := hP
  subst ha
  have e0 : s₁.heap = h0 := by rw [← hh, Bd.state]; rfl
  obtain ⟨s₂, o, h1, h2, h3, h4⟩ := k (p, e, s, m, args, below, meth, c) ⟨Bd.exec, Bd.bytes, hml0, findClass_of_methodNamed Bd.named, hZ, Bd.returns, Bd.notSynchronized, (name_of_methodNamed Bd.named Bd.method).1, hw⟩ s₁ [] (Stand.of_body Bd) e0 (Fr.nil n0)
  exact ⟨s₂, o, castTop (ef m) h1, h2, h3, h4⟩
theorem Rn.step {S' : List Value} (st : ∀ (T : State) (locs : List Loc), Stand w.p l w.e R w.s w.m w.a w.b w.t w.c T locs cs ss → ∀ t, Steps w.p.tables w.e w.b (T.setTop (mkF w.m q Ls' S')) t → Steps w.p.tables w.e w.b (T.setTop (mkF w.m pc Ls S)) t)
    (k : Rn w l R n0 Q q Ls' S' h cs ss) : Rn w l R n0 Q pc Ls S h cs ss := fun T locs X eT N => by
  obtain ⟨s₂, o, h1, r⟩ := k T locs X eT N
  exact ⟨s₂, o, st T locs X _ h1, r⟩
/-! plain steps -/
theorem Rn.iloadN (K : Cx w Z a0 own bytes ml rt nm) {k : Fin 4} {v : Int32} (hd : decode bytes pc = .ok (.iload_n k, 1)) (hl : Ls[k.val]? = some (.val (.int v))) (hq : pc + 1 = q) (r : Rn w l R n0 Q q Ls (.int v :: S) h cs ss) : Rn w l R n0 Q pc Ls S h cs ss := by
  subst hq; exact Rn.step (fun T locs X t k => XS.iloadN X.here K.x rfl (hb K.cd hd) hl k) r
theorem Rn.iload (K : Cx w Z a0 own bytes ml rt nm) {k : Nat} {v : Int32} (hd : decode bytes pc = .ok (.iload k, 2)) (hl : Ls[k]? = some (.val (.int v))) (hq : pc + 2 = q) (r : Rn w l R n0 Q q Ls (.int v :: S) h cs ss) : Rn w l R n0 Q pc Ls S h cs ss := by
  subst hq; exact Rn.step (fun T locs X t k => XS.iload X.here K.x rfl (hb K.cd hd) hl k) r
theorem Rn.lloadN (K : Cx w Z a0 own bytes ml rt nm) {k : Fin 4} {v : Int64} (hd : decode bytes pc = .ok (.lload_n k, 1)) (hl : Ls[k.val]? = some (.val (.long v))) (hq : pc + 1 = q) (r : Rn w l R n0 Q q Ls (.long v :: S) h cs ss) : Rn w l R n0 Q pc Ls S h cs ss := by
  subst hq; exact Rn.step (fun T locs X t k => XS.lloadN X.here K.x rfl (hb K.cd hd) hl k) r
theorem Rn.lload (K : Cx w Z a0 own bytes ml rt nm) {k : Nat} {v : Int64} (hd : decode bytes pc = .ok (.lload k, 2)) (hl : Ls[k]? = some (.val (.long v))) (hq : pc + 2 = q) (r : Rn w l R n0 Q q Ls (.long v :: S) h cs ss) : Rn w l R n0 Q pc Ls S h cs ss := by
  subst hq; exact Rn.step (fun T locs X t k => XS.lload X.here K.x rfl (hb K.cd hd) hl k) r
theorem Rn.aloadN (K : Cx w Z a0 own bytes ml rt nm) {k : Fin 4} {v : Value} (hd : decode bytes pc = .ok (.aload_n k, 1)) (hl : Ls[k.val]? = some (.val v)) (hv : v.isRef = true) (hq : pc + 1 = q) (r : Rn w l R n0 Q q Ls (v :: S) h cs ss) : Rn w l R n0 Q pc Ls S h cs ss := by
  subst hq; exact Rn.step (fun T locs X t k => XS.aloadN X.here K.x rfl (hb K.cd hd) hl hv k) r
theorem Rn.aload (K : Cx w Z a0 own bytes ml rt nm) {k : Nat} {v : Value} (hd : decode bytes pc = .ok (.aload k, 2)) (hl : Ls[k]? = some (.val v)) (hv : v.isRef = true) (hq : pc + 2 = q) (r : Rn w l R n0 Q q Ls (v :: S) h cs ss) : Rn w l R n0 Q pc Ls S h cs ss := by
  subst hq; exact Rn.step (fun T locs X t k => XS.aload X.here K.x rfl (hb K.cd hd) hl hv k) r
theorem Rn.istoreN (K : Cx w Z a0 own bytes ml rt nm) {k : Fin 4} {v : Int32} (hd : decode bytes pc = .ok (.istore_n k, 1)) (hl : storeLocals Ls k.val (.int v) = some Ls') (hq : pc + 1 = q) (r : Rn w l R n0 Q q Ls' S h cs ss) : Rn w l R n0 Q pc Ls (.int v :: S) h cs ss := by
  subst hq; exact Rn.step (fun T locs X t k => XS.istoreN X.here K.x rfl (hb K.cd hd) rfl hl k) r
theorem Rn.istore (K : Cx w Z a0 own bytes ml rt nm) {k : Nat} {v : Int32} (hd : decode bytes pc = .ok (.istore k, 2)) (hl : storeLocals Ls k (.int v) = some Ls') (hq : pc + 2 = q) (r : Rn w l R n0 Q q Ls' S h cs ss) : Rn w l R n0 Q pc Ls (.int v :: S) h cs ss := by
  subst hq; exact Rn.step (fun T locs X t k => XS.istore X.here K.x rfl (hb K.cd hd) rfl hl k) r
theorem Rn.lstoreN (K : Cx w Z a0 own bytes ml rt nm) {k : Fin 4} {v : Int64} (hd : decode bytes pc = .ok (.lstore_n k, 1)) (hl : storeLocals Ls k.val (.long v) = some Ls') (hq : pc + 1 = q) (r : Rn w l R n0 Q q Ls' S h cs ss) : Rn w l R n0 Q pc Ls (.long v :: S) h cs ss := by
  subst hq; exact Rn.step (fun T locs X t k => XS.lstoreN X.here K.x rfl (hb K.cd hd) rfl hl k) r
theorem Rn.lstore (K : Cx w Z a0 own bytes ml rt nm) {k : Nat} {v : Int64} (hd : decode bytes pc = .ok (.lstore k, 2)) (hl : storeLocals Ls k (.long v) = some Ls') (hq : pc + 2 = q) (r : Rn w l R n0 Q q Ls' S h cs ss) : Rn w l R n0 Q pc Ls (.long v :: S) h cs ss := by
  subst hq; exact Rn.step (fun T locs X t k => XS.lstore X.here K.x rfl (hb K.cd hd) rfl hl k) r
theorem Rn.astoreN (K : Cx w Z a0 own bytes ml rt nm) {k : Fin 4} {v : Value} (hd : decode bytes pc = .ok (.astore_n k, 1)) (hv : v.isRef = true) (hl : storeLocals Ls k.val v = some Ls') (hq : pc + 1 = q) (r : Rn w l R n0 Q q Ls' S h cs ss) : Rn w l R n0 Q pc Ls (v :: S) h cs ss := by
  subst hq; exact Rn.step (fun T locs X t k => XS.astoreN X.here K.x rfl (hb K.cd hd) rfl hv hl k) r
theorem Rn.astore (K : Cx w Z a0 own bytes ml rt nm) {k : Nat} {v : Value} (hd : decode bytes pc = .ok (.astore k, 2)) (hv : v.isRef = true) (hl : storeLocals Ls k v = some Ls') (hq : pc + 2 = q) (r : Rn w l R n0 Q q Ls' S h cs ss) : Rn w l R n0 Q pc Ls (v :: S) h cs ss := by
  subst hq; exact Rn.step (fun T locs X t k => XS.astore X.here K.x rfl (hb K.cd hd) rfl hv hl k) r
theorem Rn.iconst (K : Cx w Z a0 own bytes ml rt nm) {i : Int} (v : Int32) (hd : decode bytes pc = .ok (.iconst i, 1)) (hv : Int32.ofInt i = v) (hq : pc + 1 = q) (r : Rn w l R n0 Q q Ls (.int v :: S) h cs ss) : Rn w l R n0 Q pc Ls S h cs ss := by
  subst hq hv; exact Rn.step (fun T locs X t k => XS.iconst X.here K.x rfl (hb K.cd hd) k) r
theorem Rn.bipush (K : Cx w Z a0 own bytes ml rt nm) {i : Int} (v : Int32) (hd : decode bytes pc = .ok (.bipush i, 2)) (hv : (Int8.ofInt i).toInt32 = v) (hq : pc + 2 = q) (r : Rn w l R n0 Q q Ls (.int v :: S) h cs ss) : Rn w l R n0 Q pc Ls S h cs ss := by
  subst hq hv; exact Rn.step (fun T locs X t k => XS.bipush X.here K.x rfl (hb K.cd hd) k) r
theorem Rn.sipush (K : Cx w Z a0 own bytes ml rt nm) {i : Int} (v : Int32) (hd : decode bytes pc = .ok (.sipush i, 3)) (hv : (Int16.ofInt i).toInt32 = v) (hq : pc + 3 = q) (r : Rn w l R n0 Q q Ls (.int v :: S) h cs ss) : Rn w l R n0 Q pc Ls S h cs ss := by
  subst hq hv; exact Rn.step (fun T locs X t k => XS.sipush X.here K.x rfl (hb K.cd hd) k) r
theorem Rn.lconst (K : Cx w Z a0 own bytes ml rt nm) {i : Fin 2} (v : Int64) (hd : decode bytes pc = .ok (.lconst i, 1)) (hv : Int64.ofNat i = v) (hq : pc + 1 = q) (r : Rn w l R n0 Q q Ls (.long v :: S) h cs ss) : Rn w l R n0 Q pc Ls S h cs ss := by
  subst hq hv; exact Rn.step (fun T locs X t k => XS.lconst X.here K.x rfl (hb K.cd hd) k) r
theorem Rn.aconst_null (K : Cx w Z a0 own bytes ml rt nm) (hd : decode bytes pc = .ok (.aconst_null, 1)) (hq : pc + 1 = q) (r : Rn w l R n0 Q q Ls (.null :: S) h cs ss) : Rn w l R n0 Q pc Ls S h cs ss := by
  subst hq; exact Rn.step (fun T locs X t k => XS.aconstNull X.here K.x rfl (hb K.cd hd) k) r
theorem Rn.ldcI (K : Cx w Z a0 own bytes ml rt nm) {i : Nat} (v : Int32) (hi : Jvm.Cond.constant own i v ∈ tables_1) (hd : decode bytes pc = .ok (.ldc i, 2)) (hq : pc + 2 = q) (r : Rn w l R n0 Q q Ls (.int v :: S) h cs ss) : Rn w l R n0 Q pc Ls S h cs ss := by
  subst hq; exact Rn.step (fun T locs X t k => X.ldcI K.x K.ow (mvT K.z (K.hw _ hi)) rfl (hb K.cd hd) k) r
theorem Rn.ldc2J (K : Cx w Z a0 own bytes ml rt nm) {i : Nat} (v : Int64) (hi : Jvm.Cond.constantLong own i v ∈ tables_1) (hd : decode bytes pc = .ok (.ldc2_w i, 3)) (hq : pc + 3 = q) (r : Rn w l R n0 Q q Ls (.long v :: S) h cs ss) : Rn w l R n0 Q pc Ls S h cs ss := by
  subst hq; exact Rn.step (fun T locs X t k => X.ldc2J K.x K.ow (mvT K.z (K.hw _ hi)) rfl (hb K.cd hd) k) r
theorem Rn.iadd (K : Cx w Z a0 own bytes ml rt nm) {x y : Int32} (hd : decode bytes pc = .ok (.iadd, 1)) (hq : pc + 1 = q) (r : Rn w l R n0 Q q Ls (.int (x + y) :: S) h cs ss) : Rn w l R n0 Q pc Ls (.int y :: .int x :: S) h cs ss := by
  subst hq; exact Rn.step (fun T locs X t k => XS.iadd X.here K.x rfl (hb K.cd hd) rfl k) r
theorem Rn.isub (K : Cx w Z a0 own bytes ml rt nm) {x y : Int32} (hd : decode bytes pc = .ok (.isub, 1)) (hq : pc + 1 = q) (r : Rn w l R n0 Q q Ls (.int (x - y) :: S) h cs ss) : Rn w l R n0 Q pc Ls (.int y :: .int x :: S) h cs ss := by
  subst hq; exact Rn.step (fun T locs X t k => XS.isub X.here K.x rfl (hb K.cd hd) rfl k) r
theorem Rn.imul (K : Cx w Z a0 own bytes ml rt nm) {x y : Int32} (hd : decode bytes pc = .ok (.imul, 1)) (hq : pc + 1 = q) (r : Rn w l R n0 Q q Ls (.int (x * y) :: S) h cs ss) : Rn w l R n0 Q pc Ls (.int y :: .int x :: S) h cs ss := by
  subst hq; exact Rn.step (fun T locs X t k => XS.imul X.here K.x rfl (hb K.cd hd) rfl k) r
theorem Rn.iand (K : Cx w Z a0 own bytes ml rt nm) {x y : Int32} (hd : decode bytes pc = .ok (.iand, 1)) (hq : pc + 1 = q) (r : Rn w l R n0 Q q Ls (.int (x &&& y) :: S) h cs ss) : Rn w l R n0 Q pc Ls (.int y :: .int x :: S) h cs ss := by
  subst hq; exact Rn.step (fun T locs X t k => XS.iand X.here K.x rfl (hb K.cd hd) rfl k) r
theorem Rn.ior (K : Cx w Z a0 own bytes ml rt nm) {x y : Int32} (hd : decode bytes pc = .ok (.ior, 1)) (hq : pc + 1 = q) (r : Rn w l R n0 Q q Ls (.int (x ||| y) :: S) h cs ss) : Rn w l R n0 Q pc Ls (.int y :: .int x :: S) h cs ss := by
  subst hq; exact Rn.step (fun T locs X t k => XS.ior X.here K.x rfl (hb K.cd hd) rfl k) r
theorem Rn.iushr (K : Cx w Z a0 own bytes ml rt nm) {x y : Int32} (hd : decode bytes pc = .ok (.iushr, 1)) (hq : pc + 1 = q) (r : Rn w l R n0 Q q Ls (.int ((x.toUInt32 >>> (y &&& 31).toUInt32).toInt32) :: S) h cs ss) : Rn w l R n0 Q pc Ls (.int y :: .int x :: S) h cs ss := by
  subst hq; exact Rn.step (fun T locs X t k => XS.iushr X.here K.x rfl (hb K.cd hd) rfl k) r
theorem Rn.ishr (K : Cx w Z a0 own bytes ml rt nm) {x y : Int32} (hd : decode bytes pc = .ok (.ishr, 1)) (hq : pc + 1 = q) (r : Rn w l R n0 Q q Ls (.int (x >>> (y &&& 31)) :: S) h cs ss) : Rn w l R n0 Q pc Ls (.int y :: .int x :: S) h cs ss := by
  subst hq; exact Rn.step (fun T locs X t k => XS.ishr X.here K.x rfl (hb K.cd hd) rfl k) r
theorem Rn.irem (K : Cx w Z a0 own bytes ml rt nm) {x y : Int32} (hd : decode bytes pc = .ok (.irem, 1)) (hy : y ≠ 0) (hq : pc + 1 = q) (r : Rn w l R n0 Q q Ls (.int (x % y) :: S) h cs ss) : Rn w l R n0 Q pc Ls (.int y :: .int x :: S) h cs ss := by
  subst hq; exact Rn.step (fun T locs X t k => iremM X K.x rfl (hb K.cd hd) rfl hy k) r
theorem Rn.land (K : Cx w Z a0 own bytes ml rt nm) {x y : Int64} (hd : decode bytes pc = .ok (.land, 1)) (hq : pc + 1 = q) (r : Rn w l R n0 Q q Ls (.long (x &&& y) :: S) h cs ss) : Rn w l R n0 Q pc Ls (.long y :: .long x :: S) h cs ss := by
  subst hq; exact Rn.step (fun T locs X t k => XS.land X.here K.x rfl (hb K.cd hd) rfl k) r
theorem Rn.lmul (K : Cx w Z a0 own bytes ml rt nm) {x y : Int64} (hd : decode bytes pc = .ok (.lmul, 1)) (hq : pc + 1 = q) (r : Rn w l R n0 Q q Ls (.long (x * y) :: S) h cs ss) : Rn w l R n0 Q pc Ls (.long y :: .long x :: S) h cs ss := by
  subst hq; exact Rn.step (fun T locs X t k => XS.lmul X.here K.x rfl (hb K.cd hd) rfl k) r
theorem Rn.lneg (K : Cx w Z a0 own bytes ml rt nm) {x : Int64} (hd : decode bytes pc = .ok (.lneg, 1)) (hq : pc + 1 = q) (r : Rn w l R n0 Q q Ls (.long (-x) :: S) h cs ss) : Rn w l R n0 Q pc Ls (.long x :: S) h cs ss := by
  subst hq; exact Rn.step (fun T locs X t k => XS.lneg X.here K.x rfl (hb K.cd hd) rfl k) r
theorem Rn.lcmp (K : Cx w Z a0 own bytes ml rt nm) {x y : Int64} (hd : decode bytes pc = .ok (.lcmp, 1)) (hq : pc + 1 = q) (r : Rn w l R n0 Q q Ls (.int (lcmpW x y) :: S) h cs ss) : Rn w l R n0 Q pc Ls (.long y :: .long x :: S) h cs ss := by
  subst hq; exact Rn.step (fun T locs X t k => XS.lcmp X.here K.x rfl (hb K.cd hd) rfl k) r
theorem Rn.i2l (K : Cx w Z a0 own bytes ml rt nm) {x : Int32} (hd : decode bytes pc = .ok (.i2l, 1)) (hq : pc + 1 = q) (r : Rn w l R n0 Q q Ls (.long x.toInt64 :: S) h cs ss) : Rn w l R n0 Q pc Ls (.int x :: S) h cs ss := by
  subst hq; exact Rn.step (fun T locs X t k => XS.i2l X.here K.x rfl (hb K.cd hd) rfl k) r
theorem Rn.i2c (K : Cx w Z a0 own bytes ml rt nm) {x : Int32} (hd : decode bytes pc = .ok (.i2c, 1)) (hq : pc + 1 = q) (r : Rn w l R n0 Q q Ls (.int x.toUInt32.toUInt16.toUInt32.toInt32 :: S) h cs ss) : Rn w l R n0 Q pc Ls (.int x :: S) h cs ss := by
  subst hq; exact Rn.step (fun T locs X t k => XS.i2c X.here K.x rfl (hb K.cd hd) rfl k) r
theorem Rn.dup (K : Cx w Z a0 own bytes ml rt nm) {x : Value} (hd : decode bytes pc = .ok (.dup, 1)) (hc : x.category = 1) (hq : pc + 1 = q) (r : Rn w l R n0 Q q Ls (x :: x :: S) h cs ss) : Rn w l R n0 Q pc Ls (x :: S) h cs ss := by
  subst hq; exact Rn.step (fun T locs X t k => XS.dup X.here K.x rfl (hb K.cd hd) rfl hc k) r
theorem Rn.pop (K : Cx w Z a0 own bytes ml rt nm) {x : Value} (hd : decode bytes pc = .ok (.pop, 1)) (hc : x.category = 1) (hq : pc + 1 = q) (r : Rn w l R n0 Q q Ls S h cs ss) : Rn w l R n0 Q pc Ls (x :: S) h cs ss := by
  subst hq; exact Rn.step (fun T locs X t k => XS.pop X.here K.x rfl (hb K.cd hd) rfl hc k) r
theorem Rn.dup_x1 (K : Cx w Z a0 own bytes ml rt nm) {x y : Value} (hd : decode bytes pc = .ok (.dup_x1, 1)) (hc : x.category = 1) (hc' : y.category = 1) (hq : pc + 1 = q) (r : Rn w l R n0 Q q Ls (x :: y :: x :: S) h cs ss) : Rn w l R n0 Q pc Ls (x :: y :: S) h cs ss := by
  subst hq; exact Rn.step (fun T locs X t k => XS.dupX1 X.here K.x rfl (hb K.cd hd) rfl hc hc' k) r
theorem Rn.dup2L (K : Cx w Z a0 own bytes ml rt nm) {x : Int64} (hd : decode bytes pc = .ok (.dup2, 1)) (hq : pc + 1 = q) (r : Rn w l R n0 Q q Ls (.long x :: .long x :: S) h cs ss) : Rn w l R n0 Q pc Ls (.long x :: S) h cs ss := by
  subst hq; exact Rn.step (fun T locs X t k => XT.dup2L X.here K.x rfl (hb K.cd hd) rfl k) r
theorem Rn.iinc (K : Cx w Z a0 own bytes ml rt nm) {k : Nat} {i : Int} {x : Int32} (v : Int32) (hd : decode bytes pc = .ok (.iinc k i, 3)) (hv : Int32.ofInt i = v) (hl : Ls[k]? = some (.val (.int x))) (hl' : storeLocals Ls k (.int (x + v)) = some Ls') (hq : pc + 3 = q) (r : Rn w l R n0 Q q Ls' S h cs ss) : Rn w l R n0 Q pc Ls S h cs ss := by
  subst hq hv; exact Rn.step (fun T locs X t k => XS.iinc X.here K.x rfl (hb K.cd hd) hl hl' k) r
theorem Rn.goto (K : Cx w Z a0 own bytes ml rt nm) {o : Int} (hd : decode bytes pc = .ok (.goto o, 3)) (ho : 0 ≤ (pc : Int) + o) (hq : ((pc : Int) + o).toNat = q) (r : Rn w l R n0 Q q Ls S h cs ss) : Rn w l R n0 Q pc Ls S h cs ss :=
  Rn.step (fun T locs X t k => XS.goto X.here K.x rfl rfl (hb K.cd hd) ho hq k) r
theorem Rn.ifY (K : Cx w Z a0 own bytes ml rt nm) {cd : ClassFile.Cond} {x : Int32} {o : Int} (hd : decode bytes pc = .ok (.ifCond cd o, 3)) (hc : ifCond.holds cd x = true) (ho : 0 ≤ (pc : Int) + o) (hq : ((pc : Int) + o).toNat = q) (r : Rn w l R n0 Q q Ls S h cs ss) : Rn w l R n0 Q pc Ls (.int x :: S) h cs ss :=
  Rn.step (fun T locs X t k => XS.ifYes X.here K.x rfl rfl (hb K.cd hd) rfl hc ho hq k) r
theorem Rn.ifN (K : Cx w Z a0 own bytes ml rt nm) {cd : ClassFile.Cond} {x : Int32} {o : Int} (hd : decode bytes pc = .ok (.ifCond cd o, 3)) (hc : ifCond.holds cd x = false) (hq : pc + 3 = q) (r : Rn w l R n0 Q q Ls S h cs ss) : Rn w l R n0 Q pc Ls (.int x :: S) h cs ss := by
  subst hq; exact Rn.step (fun T locs X t k => XS.ifNo X.here K.x rfl (hb K.cd hd) rfl hc k) r
theorem Rn.icY (K : Cx w Z a0 own bytes ml rt nm) {cd : ClassFile.Cond} {x y : Int32} {o : Int} (hd : decode bytes pc = .ok (.if_icmp cd o, 3)) (hc : if_icmp.holds cd x y = true) (ho : 0 ≤ (pc : Int) + o) (hq : ((pc : Int) + o).toNat = q) (r : Rn w l R n0 Q q Ls S h cs ss) : Rn w l R n0 Q pc Ls (.int y :: .int x :: S) h cs ss :=
  Rn.step (fun T locs X t k => XS.icmpYes X.here K.x rfl rfl (hb K.cd hd) rfl hc ho hq k) r
theorem Rn.icN (K : Cx w Z a0 own bytes ml rt nm) {cd : ClassFile.Cond} {x y : Int32} {o : Int} (hd : decode bytes pc = .ok (.if_icmp cd o, 3)) (hc : if_icmp.holds cd x y = false) (hq : pc + 3 = q) (r : Rn w l R n0 Q q Ls S h cs ss) : Rn w l R n0 Q pc Ls (.int y :: .int x :: S) h cs ss := by
  subst hq; exact Rn.step (fun T locs X t k => XS.icmpNo X.here K.x rfl (hb K.cd hd) rfl hc k) r
theorem Rn.acY (K : Cx w Z a0 own bytes ml rt nm) {cd : ClassFile.ACond} {x y : Value} {o : Int} (hd : decode bytes pc = .ok (.if_acmp cd o, 3)) (h1 : x.isRef = true) (h2 : y.isRef = true) (hc : XT.acmp cd x y = true) (ho : 0 ≤ (pc : Int) + o) (hq : ((pc : Int) + o).toNat = q) (r : Rn w l R n0 Q q Ls S h cs ss) : Rn w l R n0 Q pc Ls (y :: x :: S) h cs ss :=
  Rn.step (fun T locs X t k => XT.acmpYes X.here K.x rfl rfl (hb K.cd hd) rfl h1 h2 hc ho hq k) r
theorem Rn.acN (K : Cx w Z a0 own bytes ml rt nm) {cd : ClassFile.ACond} {x y : Value} {o : Int} (hd : decode bytes pc = .ok (.if_acmp cd o, 3)) (h1 : x.isRef = true) (h2 : y.isRef = true) (hc : XT.acmp cd x y = false) (hq : pc + 3 = q) (r : Rn w l R n0 Q q Ls S h cs ss) : Rn w l R n0 Q pc Ls (y :: x :: S) h cs ss := by
  subst hq; exact Rn.step (fun T locs X t k => XT.acmpNo X.here K.x rfl (hb K.cd hd) rfl h1 h2 hc k) r
theorem Rn.nullY (K : Cx w Z a0 own bytes ml rt nm) {o : Int} (hd : decode bytes pc = .ok (.ifnull o, 3)) (ho : 0 ≤ (pc : Int) + o) (hq : ((pc : Int) + o).toNat = q) (r : Rn w l R n0 Q q Ls S h cs ss) : Rn w l R n0 Q pc Ls (.null :: S) h cs ss :=
  Rn.step (fun T locs X t k => XS.ifnullYes X.here K.x rfl rfl (hb K.cd hd) rfl ho hq k) r
theorem Rn.nullN (K : Cx w Z a0 own bytes ml rt nm) {o : Int} {b : Addr} (hd : decode bytes pc = .ok (.ifnull o, 3)) (hq : pc + 3 = q) (r : Rn w l R n0 Q q Ls S h cs ss) : Rn w l R n0 Q pc Ls (.ref b :: S) h cs ss := by
  subst hq; exact Rn.step (fun T locs X t k => XS.ifnullNo X.here K.x rfl (hb K.cd hd) rfl k) r
theorem Rn.nonnullY (K : Cx w Z a0 own bytes ml rt nm) {o : Int} {b : Addr} (hd : decode bytes pc = .ok (.ifnonnull o, 3)) (ho : 0 ≤ (pc : Int) + o) (hq : ((pc : Int) + o).toNat = q) (r : Rn w l R n0 Q q Ls S h cs ss) : Rn w l R n0 Q pc Ls (.ref b :: S) h cs ss :=
  Rn.step (fun T locs X t k => XS.ifnonnullYes X.here K.x rfl rfl (hb K.cd hd) rfl ho hq k) r
theorem Rn.nonnullN (K : Cx w Z a0 own bytes ml rt nm) {o : Int} (hd : decode bytes pc = .ok (.ifnonnull o, 3)) (hq : pc + 3 = q) (r : Rn w l R n0 Q q Ls S h cs ss) : Rn w l R n0 Q pc Ls (.null :: S) h cs ss := by
  subst hq; exact Rn.step (fun T locs X t k => XS.ifnonnullNo X.here K.x rfl (hb K.cd hd) rfl k) r
/-! the ends -/
theorem Rn.retN (K : Cx w Z a0 own bytes ml rt nm) {x : Int32} (t : FieldType) (ht : rt = some t) (ht' : t = .boolean ∨ t = .byte ∨ t = .char ∨ t = .short) (hd : decode bytes pc = .ok (.ireturn, 1)) (hc : cs ≤ R.cells) (hs : ss ≤ R.slots) (hQ : Q (some (.int (nar t x))) h) : Rn w l R n0 Q pc Ls (.int x :: S) h cs ss := fun T locs X eT N => by
  obtain ⟨fs, hr, hrun, hended, hW, hsame⟩ := X.leave (v := some (.int (nar t x))) (fun h => by rw [K.ret, ht] at h; cases h) K.lk
  exact ⟨_, _, Jvm.RoadKit.retN X K.x (K.ret.trans ht) ht' (hb K.cd hd) hr, hrun, hended, _, _, rfl, ⟨N, by rw [← eT] at hQ; exact hQ⟩, ⟨_, rfl⟩, hW, hsame.mono hc hs⟩
theorem Rn.retI (K : Cx w Z a0 own bytes ml rt nm) {x : Int32} (ht : rt = some .int) (hd : decode bytes pc = .ok (.ireturn, 1)) (hc : cs ≤ R.cells) (hs : ss ≤ R.slots) (hQ : Q (some (.int x)) h) : Rn w l R n0 Q pc Ls (.int x :: S) h cs ss := fun T locs X eT N => by
  obtain ⟨fs, hr, hrun, hended, hW, hsame⟩ := X.leave (v := some (.int x)) (fun h => by rw [K.ret, ht] at h; cases h) K.lk
  exact ⟨_, _, Jvm.RoadKit.retI X K.x (K.ret.trans ht) (hb K.cd hd) hr, hrun, hended, _, _, rfl, ⟨N, by rw [← eT] at hQ; exact hQ⟩, ⟨_, rfl⟩, hW, hsame.mono hc hs⟩
theorem Rn.retJ (K : Cx w Z a0 own bytes ml rt nm) {x : Int64} (ht : rt = some .long) (hd : decode bytes pc = .ok (.lreturn, 1)) (hc : cs ≤ R.cells) (hs : ss ≤ R.slots) (hQ : Q (some (.long x)) h) : Rn w l R n0 Q pc Ls [.long x] h cs ss := fun T locs X eT N => by
  obtain ⟨fs, hr, hrun, hended, hW, hsame⟩ := X.leave (v := some (.long x)) (fun h => by rw [K.ret, ht] at h; cases h) K.lk
  exact ⟨_, _, X.lreturnOut K.x (K.ret.trans ht) (hb K.cd hd) hr, hrun, hended, _, _, rfl, ⟨N, by rw [← eT] at hQ; exact hQ⟩, ⟨_, rfl⟩, hW, hsame.mono hc hs⟩
theorem Rn.retA (K : Cx w Z a0 own bytes ml rt nm) {v : Value} (t : FieldType) (hv : v.isRef = true) (ht : rt = some t) (ht' : t.isReference = true) (hd : decode bytes pc = .ok (.areturn, 1)) (hc : cs ≤ R.cells) (hs : ss ≤ R.slots) (hQ : Q (some v) h) : Rn w l R n0 Q pc Ls [v] h cs ss := fun T locs X eT N => by
  obtain ⟨fs, hr, hrun, hended, hW, hsame⟩ := X.leave (v := some v) (fun h => by rw [K.ret, ht] at h; cases h) K.lk
  exact ⟨_, _, X.areturnOut K.x hv (K.ret.trans ht) ht' (hb K.cd hd) hr, hrun, hended, _, _, rfl, ⟨N, by rw [← eT] at hQ; exact hQ⟩, ⟨_, rfl⟩, hW, hsame.mono hc hs⟩
theorem Rn.retV (K : Cx w Z a0 own bytes ml rt nm) (ht : rt = none) (hd : decode bytes pc = .ok (.return_, 1)) (hc : cs ≤ R.cells) (hs : ss ≤ R.slots) (hQ : Q none h) : Rn w l R n0 Q pc Ls [] h cs ss := fun T locs X eT N => by
  obtain ⟨fs, hr, hrun, hended, hW, hsame⟩ := X.leave (v := none) (fun _ => rfl) K.lk
  exact ⟨_, _, X.returnOut K.x (K.ret.trans ht) (hb K.cd hd) hr, hrun, hended, _, _, rfl, ⟨N, by rw [← eT] at hQ; exact hQ⟩, ⟨_, rfl⟩, hW, hsame.mono hc hs⟩
/-! fields and statics -/
theorem Rn.getS (K : Cx w Z a0 own bytes ml rt nm) {i : Nat} {C n d : String} {v : Value} (hi : Jvm.Cond.fieldLink own i C n d ∈ tables_1) (F : Sta Z h C n d v) (hd : decode bytes pc = .ok (.getstatic i, 3)) (hq : pc + 3 = q) (r : Rn w l R n0 Q q Ls (v :: S) h cs ss) : Rn w l R n0 Q pc Ls S h cs ss := fun T locs X eT N => by
  subst hq
  obtain ⟨T', X', e', st⟩ := getS2 X K.x K.z K.ow (host := "") (Or.inl (K.hw _ hi)) Via.refl eT F (g := mkF w.m pc Ls S) rfl (hb K.cd hd)
  obtain ⟨s₂, o, h1, r'⟩ := r T' locs X' e' N
  exact ⟨s₂, o, st _ h1, r'⟩
theorem Rn.getF (K : Cx w Z a0 own bytes ml rt nm) {i : Nat} {C O n d : String} {a : Addr} {v : Value} (hi : Jvm.Cond.fieldLink own i C n d ∈ tables_1) (via : Via Z C O n d) (F : Fld Z h a O n d v) (hd : decode bytes pc = .ok (.getfield i, 3)) (hq : pc + 3 = q) (r : Rn w l R n0 Q q Ls (v :: S) h cs ss) : Rn w l R n0 Q pc Ls (.ref a :: S) h cs ss := fun T locs X eT N => by
  subst hq
  obtain ⟨T', X', e', st⟩ := Jvm.RoadKit.getF X K.x K.z K.ow (host := "") (Or.inl (K.hw _ hi)) via eT F (g := mkF w.m pc Ls (.ref a :: S)) rfl rfl (hb K.cd hd)
  obtain ⟨s₂, o, h1, r'⟩ := r T' locs X' e' N
  exact ⟨s₂, o, st _ h1, r'⟩
theorem Rn.putF (K : Cx w Z a0 own bytes ml rt nm) {i kk : Nat} {C0 O n d C : String} {ty : FieldType} {a : Addr} {v v' old : Value} (hi : Jvm.Cond.fieldLink own i C0 n d ∈ tables_1) (via : Via Z C0 O n d) (F : Fld Z h a O n d old) (E : Exa Z h a C)
    (hl : Jvm.Cond.lays C O n d ∈ tables_1 ∨ (Jvm.Cond.laysFinal C O n d ∈ tables_1 ∧ own = O ∧ nm = "<init>")) (hin : Jvm.Cond.instantiable C kk ∈ tables_1) (hty : parseFieldDescriptor d = some ty) (hn : narrow ty v = v') (hf : fits ty v' = true) (hg : n0 ≤ a)
    (hd : decode bytes pc = .ok (.putfield i, 3)) (hq : pc + 3 = q) (r : ∀ h', Wr h h' a (Jvm.RoadKit.slotOf Z O n d) v' → Rn w l R n0 Q q Ls S h' cs ss) : Rn w l R n0 Q pc Ls (v :: .ref a :: S) h cs ss := fun T locs X eT N => by
  subst hq
  obtain ⟨T', h', X', e', W, st⟩ := putFN X K.x K.z K.ow (K.hw _ hi) via eT F E (hl.elim (fun z => Or.inl (K.hw _ z)) (fun z => Or.inr ⟨K.hw _ z.1, z.2.1, K.nme.trans z.2.2⟩)) (K.hw _ hin) hty hn hf (g := mkF w.m pc Ls (v :: .ref a :: S)) rfl rfl (hb K.cd hd)
  obtain ⟨s₂, o, h1, r'⟩ := r h' W T' _ X' e' (Fr.snoc X' N hg)
  exact ⟨s₂, o, st _ h1, r'⟩
/-! making -/
theorem Rn.newO (K : Cx w Z a0 own bytes ml rt nm) {i k : Nat} {C : String} (hi : Jvm.Cond.classLink own i C ∈ tables_1) (hin : Jvm.Cond.instantiable C k ∈ tables_1) (hz : Jvm.Cond.initialized C ∈ tables_1) (hc : cs + 1 ≤ R.cells) (hs : ss + k ≤ R.slots) (hd : decode bytes pc = .ok (.new i, 3)) (hq : pc + 3 = q)
    (r : ∀ b h', b = h.size → Ext h h' → Exa Z h' b C → (∀ {O n d : String} {ty : FieldType}, Laid Z a0 C O n d → parseFieldDescriptor d = some ty → Fld Z h' b O n d (defaultValue ty)) → Rn w l R n0 Q q Ls (.ref b :: S) h' (cs + 1) (ss + k)) : Rn w l R n0 Q pc Ls S h cs ss := fun T locs X eT N => by
  subst hq
  obtain ⟨T', h', X', e', E, A, D, -, st⟩ := Jvm.RoadKit.newO X K.x K.z K.ow (K.hw _ hi) (K.hw _ hin) (K.hw _ hz) eT (g := mkF w.m pc Ls S) rfl (hb K.cd hd) hc hs
  obtain ⟨s₂, o, h1, r'⟩ := r _ h' rfl E A D T' _ X' e' N
  exact ⟨s₂, o, st _ h1, r'⟩
theorem Rn.newP (K : Cx w Z a0 own bytes ml rt nm) {aty : ArrayType} {x : Int32} {cap : Nat} (hi : Jvm.Cond.arrayClass (newarray.typeOf aty) ∈ tables_1) (hn : ¬ x < 0) (hcap : x.toNatClampNeg ≤ cap) (hb8 : cap * 8 ≤ 536870912) (hc : cs + 1 ≤ R.cells) (hs : ss + cap ≤ R.slots) {ad : String} (had : "[" ++ (newarray.typeOf aty).toString = ad) (hd : decode bytes pc = .ok (.newarray aty, 2)) (hq : pc + 2 = q)
    (r : ∀ b h' k, b = h.size → Ext h h' → Arv Z h' b k (newarray.typeOf aty) x [] (defaultValue (newarray.typeOf aty)) → Exa Z h' b ad → Rn w l R n0 Q q Ls (.ref b :: S) h' (cs + 1) (ss + cap)) : Rn w l R n0 Q pc Ls (.int x :: S) h cs ss := fun T locs X eT N => by
  subst hq
  obtain ⟨T', h', k, X', e', E, A, EA, st⟩ := newPE X K.x K.z (K.hw _ hi) eT (g := mkF w.m pc Ls (.int x :: S)) rfl (hb K.cd hd) rfl hn hcap hb8 hc hs had
  obtain ⟨s₂, o, h1, r'⟩ := r _ h' k rfl E (Arv.new A hn) EA T' _ X' e' N
  exact ⟨s₂, o, st _ h1, r'⟩
/-! calls -/
theorem nfs (K : Cx w Z a0 own bytes ml rt nm) {C : String} {y : MethodName} (i : Jvm.Cond.selects C y y ∈ tables_1) : NotFace w.s y := notFace_of_selects (args := #[]) (mvT K.z (K.hw _ i))
theorem Rn.virt (K : Cx w Z a0 own bytes ml rt nm) {index W : Nat} {y z : MethodName} {C : String} {b : Addr} {argsL rest : List Value} {bz : ByteArray} {mz : Nat} {rz : Option FieldType} {rm : Room} {Q' : Option Value → Heap → Prop}
    (i1 : Jvm.Cond.methodLink own index y ∈ tables_1) (i2 : Jvm.Cond.declares y ∈ tables_1) (nf : NotFace w.s y) (i3 : Jvm.Cond.selects C y z ∈ tables_1) (i4 : Jvm.Cond.instanceMethod z ∈ tables_1) (i5 : Jvm.Cond.code z bz mz rz ∈ tables_1) (i6 : Jvm.Cond.initialized z.cls ∈ tables_1)
    (hy : y.cls ≠ "java/lang/invoke/MethodHandle" ∧ y.cls ≠ "java/lang/invoke/VarHandle") (M : Met l Z z bz mz rz rm n0 [] (.ref b :: argsL).toArray h Q') (E : Exa Z h b C) (hf : rm.frames + 1 ≤ R.frames) (hlo : W + (mz + 11) + rm.locals ≤ R.locals)
    (hsz : Ls.size = ml) (hlen : ∀ sig, parseMethodDescriptor y.desc = some sig → argsL.length = sig.parameters.length) (hS : S = argsL.reverse ++ .ref b :: rest) (hW : (rest.map fun v => v.category).sum ≤ W)
    (hd : decode bytes pc = .ok (.invokevirtual index, 3)) (hq : pc + 3 = q) (hc : cs + rm.cells ≤ R.cells) (hs : ss + rm.slots ≤ R.slots)
    (r : ∀ v h', Q' v h' → Rn w l R n0 Q q Ls (v.toList ++ rest) h' (cs + rm.cells) (ss + rm.slots)) : Rn w l R n0 Q pc Ls S h cs ss := fun T locs X eT N => by
  subst hq hS
  obtain ⟨cq, kq, qa, qb, qc⟩ := isOf K.z eT E
  obtain ⟨v, _, ⟨T', L', k', n'⟩, -, X', ⟨Lc, hQ, l', y', z'⟩, st⟩ := X.virtualBack K.x (y := y) (z := z) K.ow (mvT K.z (K.hw _ i1)) (mvT K.z (K.hw _ i2)) nf (mvT K.z (K.hw _ i3)) (mvT K.z (K.hw _ i4)) hy (backOf (Q := fun v h L => Fr n0 L ∧ Q' v h) (W := W) M K.z (K.hw _ i5) (K.hw _ i6) hf hlo) qa qc (g := mkF w.m pc Ls (argsL.reverse ++ .ref b :: rest)) rfl (hsz.trans K.mx.symm) (Steps.refl _) (argsL := argsL) (rest := rest) hlen rfl (by show 2 * 0 + _ ≤ _; rw [Nat.mul_zero, Nat.zero_add]; exact hW) (hb K.cd hd) (fun _ _ => ⟨rfl, eT, hc, hs⟩)
  dsimp only [Pt.U, Pt.locs, Pt.cells, Pt.slots] at X' l' y' z' st hQ
  subst l' y' z'
  obtain ⟨s₂, o, h1, r'⟩ := r v T'.heap hQ.2 T' _ X' rfl (Fr.app N hQ.1)
  exact ⟨s₂, o, st.trans h1, r'⟩
theorem Rn.face (K : Cx w Z a0 own bytes ml rt nm) {index count W : Nat} {y z : MethodName} {C : String} {b : Addr} {argsL rest : List Value} {bz : ByteArray} {mz : Nat} {rz : Option FieldType} {rm : Room} {Q' : Option Value → Heap → Prop}
    (i1 : Jvm.Cond.methodLink own index y ∈ tables_1) (i2 : Jvm.Cond.declares y ∈ tables_1) (i2' : (Jvm.Cond.interfaceMethod y.cls y.cls y.name y.desc).before w.a w.s = true) (i3 : Jvm.Cond.selects C y z ∈ tables_1) (i4 : Jvm.Cond.instanceMethod z ∈ tables_1) (i7 : Jvm.Cond.publicMethod z ∈ tables_1) (i8 : Jvm.Cond.unhidden C y.name y.desc ∈ tables_1) (i9 : Jvm.Cond.castable C y.cls ∈ tables_1) (i5 : Jvm.Cond.code z bz mz rz ∈ tables_1) (i6 : Jvm.Cond.initialized z.cls ∈ tables_1)
    (hy : y.cls ≠ "java/lang/invoke/MethodHandle" ∧ y.cls ≠ "java/lang/invoke/VarHandle") (M : Met l Z z bz mz rz rm n0 [] (.ref b :: argsL).toArray h Q') (E : Exa Z h b C) (hf : rm.frames + 1 ≤ R.frames) (hlo : W + (mz + 11) + rm.locals ≤ R.locals)
    (hsz : Ls.size = ml) (hlen : ∀ sig, parseMethodDescriptor y.desc = some sig → argsL.length = sig.parameters.length) (hS : S = argsL.reverse ++ .ref b :: rest) (hW : (rest.map fun v => v.category).sum ≤ W)
    (hd : decode bytes pc = .ok (.invokeinterface index count, 5)) (hq : pc + 5 = q) (hc : cs + rm.cells ≤ R.cells) (hs : ss + rm.slots ≤ R.slots)
    (r : ∀ v h', Q' v h' → Rn w l R n0 Q q Ls (v.toList ++ rest) h' (cs + rm.cells) (ss + rm.slots)) : Rn w l R n0 Q pc Ls S h cs ss := fun T locs X eT N => by
  subst hq hS
  obtain ⟨cq, kq, qa, qb, qc⟩ := isOf K.z eT E
  obtain ⟨v, _, ⟨T', L', k', n'⟩, -, X', ⟨Lc, hQ, l', y', z'⟩, st⟩ := X.interfaceBack K.x (xi := y) (y := z) K.ow (mvT K.z (K.hw _ i1)) (mvT K.z (K.hw _ i2)) i2' (mvT K.z (K.hw _ i3)) (mvT K.z (K.hw _ i4)) (mvT K.z (K.hw _ i7)) (mvT K.z (K.hw _ i8)) (mvT K.z (K.hw _ i9)) hy (backOf (Q := fun v h L => Fr n0 L ∧ Q' v h) (W := W) M K.z (K.hw _ i5) (K.hw _ i6) hf hlo) qa qb qc (g := mkF w.m pc Ls (argsL.reverse ++ .ref b :: rest)) rfl (hsz.trans K.mx.symm) (Steps.refl _) (argsL := argsL) (rest := rest) hlen rfl (by show 2 * 0 + _ ≤ _; rw [Nat.mul_zero, Nat.zero_add]; exact hW) (hb K.cd hd) (fun _ _ => ⟨rfl, eT, hc, hs⟩)
  dsimp only [Pt.U, Pt.locs, Pt.cells, Pt.slots] at X' l' y' z' st hQ
  subst l' y' z'
  obtain ⟨s₂, o, h1, r'⟩ := r v T'.heap hQ.2 T' _ X' rfl (Fr.app N hQ.1)
  exact ⟨s₂, o, st.trans h1, r'⟩
theorem Rn.stat (K : Cx w Z a0 own bytes ml rt nm) {index W : Nat} {y : MethodName} {argsL rest : List Value} {bz : ByteArray} {mz : Nat} {rz : Option FieldType} {rm : Room} {Q' : Option Value → Heap → Prop}
    (i1 : Jvm.Cond.methodLink own index y ∈ tables_1) (i2 : Jvm.Cond.static y ∈ tables_1) (i5 : Jvm.Cond.code y bz mz rz ∈ tables_1) (i6 : Jvm.Cond.initialized y.cls ∈ tables_1)
    (hy : y.cls ≠ "java/lang/invoke/MethodHandle" ∧ y.cls ≠ "java/lang/invoke/VarHandle") (M : Met l Z y bz mz rz rm n0 [] argsL.toArray h Q') (hf : rm.frames + 1 ≤ R.frames) (hlo : W + (mz + 11) + rm.locals ≤ R.locals)
    (hsz : Ls.size = ml) (hlen : ∀ sig, parseMethodDescriptor y.desc = some sig → argsL.length = sig.parameters.length) (hS : S = argsL.reverse ++ rest) (hW : (rest.map fun v => v.category).sum ≤ W)
    (hd : decode bytes pc = .ok (.invokestatic index, 3)) (hq : pc + 3 = q) (hc : cs + rm.cells ≤ R.cells) (hs : ss + rm.slots ≤ R.slots)
    (r : ∀ v h', Q' v h' → Rn w l R n0 Q q Ls (v.toList ++ rest) h' (cs + rm.cells) (ss + rm.slots)) : Rn w l R n0 Q pc Ls S h cs ss := fun T locs X eT N => by
  subst hq hS
  obtain ⟨v, _, ⟨T', L', k', n'⟩, -, X', ⟨Lc, hQ, l', y', z'⟩, st⟩ := Jvm.LawKit.callS X K.x (y := y) K.ow (mvT K.z (K.hw _ i1)) (mvT K.z (K.hw _ i2)) (mvT K.z (K.hw _ i6)) (mvT K.z (K.hw _ i5)) hy (backOf (Q := fun v h L => Fr n0 L ∧ Q' v h) (W := W) M K.z (K.hw _ i5) (K.hw _ i6) hf hlo) (g := mkF w.m pc Ls (argsL.reverse ++ rest)) rfl (hsz.trans K.mx.symm) (argsL := argsL) (rest := rest) hlen rfl (by show 2 * 0 + _ ≤ _; rw [Nat.mul_zero, Nat.zero_add]; exact hW) (hb K.cd hd) (fun _ _ => ⟨rfl, eT, hc, hs⟩)
  dsimp only [Pt.U, Pt.locs, Pt.cells, Pt.slots] at X' l' y' z' st hQ
  subst l' y' z'
  obtain ⟨s₂, o, h1, r'⟩ := r v T'.heap hQ.2 T' _ X' rfl (Fr.app N hQ.1)
  exact ⟨s₂, o, st _ h1, r'⟩
theorem Rn.spec (K : Cx w Z a0 own bytes ml rt nm) {index W : Nat} {y : MethodName} {b : Addr} {argsL rest : List Value} {bz : ByteArray} {mz : Nat} {rm : Room} {Q' : Option Value → Heap → Prop}
    (hn : y.name = "<init>") (i1 : Jvm.Cond.methodLink own index y ∈ tables_1) (i4 : Jvm.Cond.instanceMethod y ∈ tables_1) (i5 : Jvm.Cond.code y bz mz none ∈ tables_1) (i6 : Jvm.Cond.initialized y.cls ∈ tables_1)
    (hy : y.cls ≠ "java/lang/invoke/MethodHandle" ∧ y.cls ≠ "java/lang/invoke/VarHandle") (M : Met l Z y bz mz none rm n0 [] (.ref b :: argsL).toArray h Q') (hf : rm.frames + 1 ≤ R.frames) (hlo : W + (mz + 11) + rm.locals ≤ R.locals)
    (hsz : Ls.size = ml) (hlen : ∀ sig, parseMethodDescriptor y.desc = some sig → argsL.length = sig.parameters.length) (hS : S = argsL.reverse ++ .ref b :: rest) (hW : (rest.map fun v => v.category).sum ≤ W)
    (hd : decode bytes pc = .ok (.invokespecial index, 3)) (hq : pc + 3 = q) (hc : cs + rm.cells ≤ R.cells) (hs : ss + rm.slots ≤ R.slots)
    (r : ∀ v h', Q' v h' → Rn w l R n0 Q q Ls (v.toList ++ rest) h' (cs + rm.cells) (ss + rm.slots)) : Rn w l R n0 Q pc Ls S h cs ss := fun T locs X eT N => by
  subst hq hS
  obtain ⟨v, _, ⟨T', L', k', n'⟩, -, X', ⟨Lc, hQ, l', y', z'⟩, st⟩ := X.specialBack K.x (y := y) hn K.ow (mvT K.z (K.hw _ i1)) (mvT K.z (K.hw _ i4)) (mvT K.z (K.hw _ i5)) hy (backOf (Q := fun v h L => Fr n0 L ∧ Q' v h) (W := W) M K.z (K.hw _ i5) (K.hw _ i6) hf hlo) (g := mkF w.m pc Ls (argsL.reverse ++ .ref b :: rest)) rfl (hsz.trans K.mx.symm) (Steps.refl _) (a := b) (argsL := argsL) (rest := rest) hlen rfl (by show 2 * 0 + _ ≤ _; rw [Nat.mul_zero, Nat.zero_add]; exact hW) (hb K.cd hd) (fun _ _ => ⟨rfl, eT, hc, hs⟩)
  dsimp only [Pt.U, Pt.locs, Pt.cells, Pt.slots] at X' l' y' z' st hQ
  subst l' y' z'
  obtain ⟨s₂, o, h1, r'⟩ := r v T'.heap hQ.2 T' _ X' rfl (Fr.app N hQ.1)
  exact ⟨s₂, o, st.trans h1, r'⟩
theorem Rn.initO (K : Cx w Z a0 own bytes ml rt nm) {index W : Nat} {b : Addr} (i1 : Jvm.Cond.methodLink own index Lib.objectInit ∈ tables_1) (i4 : Jvm.Cond.instanceMethod Lib.objectInit ∈ tables_1) (i5 : Jvm.Cond.code Lib.objectInit ⟨#[0xb1]⟩ 1 none ∈ tables_1)
    (hf : 1 ≤ R.frames) (hlo : W + 12 ≤ R.locals) (hsz : Ls.size = ml) (hW : (S.map fun v => v.category).sum ≤ W) (hd : decode bytes pc = .ok (.invokespecial index, 3)) (hq : pc + 3 = q) (r : Rn w l R n0 Q q Ls S h cs ss) : Rn w l R n0 Q pc Ls (.ref b :: S) h cs ss := fun T locs X eT N => by
  subst hq
  obtain ⟨T', X', e', st⟩ := Jvm.RoadKit.initO X K.x K.z K.ow (K.hw _ i1) (K.hw _ i4) (K.hw _ i5) eT (g := mkF w.m pc Ls (.ref b :: S)) rfl (hsz.trans K.mx.symm) rfl (hb K.cd hd) hf (W := W) (by show 2 * 0 + _ ≤ _; rw [Nat.mul_zero, Nat.zero_add]; exact hW) hlo
  obtain ⟨s₂, o, h1, r'⟩ := r T' locs X' e' N
  exact ⟨s₂, o, st _ h1, r'⟩
end OwnKit
theorem own_eqI {args : Array Value} {s : State} {t : Term} {k : Int32} (h : (Jvm.Cond.eq t (.int k)).value args s none s [] = some true) : t.eval args s none [] s = some (.int k) := by
  obtain ⟨x, y, hx, hy, hk, hk'⟩ := cmp_v (Or.inl h)
  rw [Term.int_eval] at hy
  cases hy
  obtain ⟨z, rfl⟩ := hk'
  have e : z = k := by simpa [Cond.value, hx, Term.eval] using h
  rw [hx, e]
theorem own_ord {args : Array Value} {s : State} {C n d : String} {a : Addr} {k : Int32} (ev : (Term.static C n d).eval args s none [] s = some (.ref a)) (h : (Jvm.Cond.eq (.field (.static C n d) "java/lang/Enum" "ordinal" "I") (.int k)).value args s none s [] = some true) : Fld s s.heap a "java/lang/Enum" "ordinal" "I" (.int k) := by
  have h2 := own_eqI h
  rw [fld_at ev] at h2
  exact Fld.start h2
theorem own_fref {args : Array Value} {s : State} {C n d C' n' d' O f e : String} {a b : Addr} (ev : (Term.static C n d).eval args s none [] s = some (.ref a)) (ev' : (Term.static C' n' d').eval args s none [] s = some (.ref b)) (h : (Jvm.Cond.eq (.field (.static C n d) O f e) (.static C' n' d')).value args s none s [] = some true) : Fld s s.heap a O f e (.ref b) := by
  obtain ⟨x, y, hx, hy, hk, hk'⟩ := cmp_v (Or.inl h)
  rw [ev'] at hy
  cases hy
  have e1 : x = .ref b := gotT (eq_R hx ev' hk'.2 rfl) h
  subst e1
  rw [fld_at ev] at hx
  exact Fld.start hx
theorem own_fnull {args : Array Value} {s : State} {C n d O f e : String} {a : Addr} (ev : (Term.static C n d).eval args s none [] s = some (.ref a)) (h : (Jvm.Cond.eq (.field (.static C n d) O f e) .null).value args s none s [] = some true) : Fld s s.heap a O f e .null := by
  have hx := null_v h
  rw [fld_at ev] at hx
  exact Fld.start hx
theorem own_mask (x : Int32) : 0 ≤ (x &&& (2147483647 : Int32)).toInt := by
  have h : ¬ (x &&& (2147483647 : Int32)) < 0 := fun q => by
    have := (XT.and_neg32 _ _).mp q
    exact absurd this.2 (by decide)
  rw [Int32.lt_iff_toInt_lt] at h
  have e0 : (0 : Int32).toInt = 0 := rfl
  omega
theorem own_mod (x : Int32) {n : Int32} {k : Int} (hn : n.toInt = k) (hk : 0 < k) : 0 ≤ ((x &&& (2147483647 : Int32)) % n).toInt ∧ ((x &&& (2147483647 : Int32)) % n).toInt < k := by
  have h := own_mask x
  rw [Int32.toInt_mod, hn]
  exact ⟨Int.tmod_nonneg _ h, Int.tmod_lt_of_pos _ hk⟩
theorem own_lit {x : Int32} {k : Int} {v : Int32} (h : x.toInt = k) (hv : v.toInt = k) : x = v := Int32.toInt_inj.mp (h.trans hv.symm)
def Enm (Z : State) (h : Heap) (C : String) (a : Addr) (k : Int32) : Prop := Exa Z h a C ∧ Fld Z h a "java/lang/Enum" "ordinal" "I" (.int k)
theorem Enm.ne {Z : State} {h : Heap} {C D : String} {a b : Addr} {k j : Int32} (A : Enm Z h C a k) (B : Enm Z h D b j) (q : k ≠ j) : a ≠ b := Fld.ne A.2 B.2 (fun e => q (Value.int.inj e))
theorem own_lc_lt (x y : Int64) : lcmpW x y < 0 ↔ x < y := by rw [lcW]; exact lc_lt x y
theorem own_lc_gt (x y : Int64) : 0 < lcmpW x y ↔ y < x := by rw [lcW]; exact lc_gt x y
theorem own_lc_eq (x y : Int64) : lcmpW x y = 0 ↔ x = y := by rw [lcW]; exact lc_eq x y
theorem own_eqL {args : Array Value} {s : State} {t : Term} {k : Int64} (h : (Jvm.Cond.eq t (.long k)).value args s none s [] = some true) : t.eval args s none [] s = some (.long k) := by
  obtain ⟨x, y, hx, hy, hk, hk'⟩ := cmp_v (Or.inl h)
  have hy2 : (Term.long k).eval args s none [] s = some (.long k) := rfl
  rw [hy2] at hy
  cases hy
  obtain ⟨z, rfl⟩ := hk'
  have e : z = k := gotT (eq_L hx hy2) h
  rw [hx, e]
section OwnKit2
variable {w : Wk} {l : Launch} {R : Room} {n0 : Nat} {Q : Option Value → Heap → Prop} {pc q : Nat} {Ls Ls' : Array Slot} {S : List Value} {h : Heap} {cs ss : Nat} {Z : State} {a0 : Array Value} {own : String} {bytes : ByteArray} {ml : Nat} {rt : Option FieldType} {nm : String}
theorem Rn.stepH {S' : List Value} (st : ∀ (T : State) (locs : List Loc), Stand w.p l w.e R w.s w.m w.a w.b w.t w.c T locs cs ss → T.heap = h → ∀ t, Steps w.p.tables w.e w.b (T.setTop (mkF w.m q Ls' S')) t → Steps w.p.tables w.e w.b (T.setTop (mkF w.m pc Ls S)) t)
    (k : Rn w l R n0 Q q Ls' S' h cs ss) : Rn w l R n0 Q pc Ls S h cs ss := fun T locs X eT N => by
  obtain ⟨s₂, o, h1, r⟩ := k T locs X eT N
  exact ⟨s₂, o, st T locs X eT _ h1, r⟩
/-! arrays, by Arv -/
section Arrays
variable {a : Addr} {k : ClassId} {z j : Int32} {vs : List Value} {d v : Value} {ty : FieldType}
theorem Rn.arraylength (K : Cx w Z a0 own bytes ml rt nm) (A : Arv Z h a k ty z vs d) (hd : decode bytes pc = .ok (.arraylength, 1)) (hq : pc + 1 = q) (r : Rn w l R n0 Q q Ls (.int z :: S) h cs ss) : Rn w l R n0 Q pc Ls (.ref a :: S) h cs ss := by
  subst hq
  obtain ⟨c, A1, A2, A3, A4, A5, A6⟩ := A
  refine Rn.stepH (fun T locs X eT t kt => ?_) r
  refine X.arraylength K.x (by rw [eT]; exact A1.1) (State.isArrayOf_alike K.z.alike A1.2.1) (g := mkF w.m pc Ls (.ref a :: S)) rfl rfl (hb K.cd hd) _ ?_
  rw [len_of A3 A4]
  exact kt
theorem Rn.iaload (K : Cx w Z a0 own bytes ml rt nm) (A : Arv Z h a k .int z vs d) (hj : ¬ j < 0 ∧ j < z) (hv : vs.getD j.toNatClampNeg d = v) (hd : decode bytes pc = .ok (.iaload, 1)) (hq : pc + 1 = q) (r : Rn w l R n0 Q q Ls (v :: S) h cs ss) : Rn w l R n0 Q pc Ls (.int j :: .ref a :: S) h cs ss := by
  subst hq
  obtain ⟨c, A1, A2, A3, A4, A5, A6⟩ := A
  exact Rn.stepH (fun T locs X eT t kt => X.iaload K.x (by rw [eT]; exact A1.1) (State.isArrayOf_alike K.z.alike A1.2.1) A1.2.2 (inb_of A3 hj) (A5.at (inb_of A3 hj) hv) (g := mkF w.m pc Ls (.int j :: .ref a :: S)) rfl rfl (hb K.cd hd) _ kt) r
theorem Rn.laload (K : Cx w Z a0 own bytes ml rt nm) (A : Arv Z h a k .long z vs d) (hj : ¬ j < 0 ∧ j < z) (hv : vs.getD j.toNatClampNeg d = v) (hd : decode bytes pc = .ok (.laload, 1)) (hq : pc + 1 = q) (r : Rn w l R n0 Q q Ls (v :: S) h cs ss) : Rn w l R n0 Q pc Ls (.int j :: .ref a :: S) h cs ss := by
  subst hq
  obtain ⟨c, A1, A2, A3, A4, A5, A6⟩ := A
  exact Rn.stepH (fun T locs X eT t kt => X.laload K.x (by rw [eT]; exact A1.1) (State.isArrayOf_alike K.z.alike A1.2.1) A1.2.2 (inb_of A3 hj) (A5.at (inb_of A3 hj) hv) (g := mkF w.m pc Ls (.int j :: .ref a :: S)) rfl rfl (hb K.cd hd) _ kt) r
theorem Rn.caload (K : Cx w Z a0 own bytes ml rt nm) (A : Arv Z h a k .char z vs d) (hj : ¬ j < 0 ∧ j < z) (hv : vs.getD j.toNatClampNeg d = v) (hd : decode bytes pc = .ok (.caload, 1)) (hq : pc + 1 = q) (r : Rn w l R n0 Q q Ls (v :: S) h cs ss) : Rn w l R n0 Q pc Ls (.int j :: .ref a :: S) h cs ss := by
  subst hq
  obtain ⟨c, A1, A2, A3, A4, A5, A6⟩ := A
  exact Rn.stepH (fun T locs X eT t kt => X.caload K.x (by rw [eT]; exact A1.1) (State.isArrayOf_alike K.z.alike A1.2.1) A1.2.2 (inb_of A3 hj) (A5.at (inb_of A3 hj) hv) (g := mkF w.m pc Ls (.int j :: .ref a :: S)) rfl rfl (hb K.cd hd) _ kt) r
theorem Rn.baloadZ (K : Cx w Z a0 own bytes ml rt nm) (A : Arv Z h a k .boolean z vs d) (hj : ¬ j < 0 ∧ j < z) (hv : vs.getD j.toNatClampNeg d = v) (hd : decode bytes pc = .ok (.baload, 1)) (hq : pc + 1 = q) (r : Rn w l R n0 Q q Ls (v :: S) h cs ss) : Rn w l R n0 Q pc Ls (.int j :: .ref a :: S) h cs ss := by
  subst hq
  obtain ⟨c, A1, A2, A3, A4, A5, A6⟩ := A
  exact Rn.stepH (fun T locs X eT t kt => X.baloadBooleans K.x (by rw [eT]; exact A1.1) (State.isArrayOf_alike K.z.alike A1.2.1) A1.2.2 (inb_of A3 hj) (A5.at (inb_of A3 hj) hv) (g := mkF w.m pc Ls (.int j :: .ref a :: S)) rfl rfl (hb K.cd hd) _ kt) r
theorem Rn.baloadB (K : Cx w Z a0 own bytes ml rt nm) (A : Arv Z h a k .byte z vs d) (hj : ¬ j < 0 ∧ j < z) (hv : vs.getD j.toNatClampNeg d = v) (hd : decode bytes pc = .ok (.baload, 1)) (hq : pc + 1 = q) (r : Rn w l R n0 Q q Ls (v :: S) h cs ss) : Rn w l R n0 Q pc Ls (.int j :: .ref a :: S) h cs ss := by
  subst hq
  obtain ⟨c, A1, A2, A3, A4, A5, A6⟩ := A
  exact Rn.stepH (fun T locs X eT t kt => X.baloadBytes K.x (by rw [eT]; exact A1.1) (State.isArrayOf_alike K.z.alike A1.2.1) A1.2.2 (inb_of A3 hj) (A5.at (inb_of A3 hj) hv) (g := mkF w.m pc Ls (.int j :: .ref a :: S)) rfl rfl (hb K.cd hd) _ kt) r
theorem Rn.aaload (K : Cx w Z a0 own bytes ml rt nm) (A : Arv Z h a k ty z vs d) (hty : ty.isReference = true) (hj : ¬ j < 0 ∧ j < z) (hv : vs.getD j.toNatClampNeg d = v) (hd : decode bytes pc = .ok (.aaload, 1)) (hq : pc + 1 = q) (r : Rn w l R n0 Q q Ls (v :: S) h cs ss) : Rn w l R n0 Q pc Ls (.int j :: .ref a :: S) h cs ss := by
  subst hq
  obtain ⟨c, A1, A2, A3, A4, A5, A6⟩ := A
  exact Rn.stepH (fun T locs X eT t kt => X.aaload K.x (by rw [eT]; exact A1.1) (State.isArrayOf_alike K.z.alike A1.2.1) hty A1.2.2 (inb_of A3 hj) (A5.at (inb_of A3 hj) hv) (g := mkF w.m pc Ls (.int j :: .ref a :: S)) rfl rfl (hb K.cd hd) _ kt) r
theorem Rn.iastore (K : Cx w Z a0 own bytes ml rt nm) (A : Arv Z h a k .int z vs d) {x : Int32} (hj : ¬ j < 0 ∧ j < z) {i : Nat} (hi : j.toNatClampNeg = i) (hi' : i < vs.length) (hg : n0 ≤ a) (hd : decode bytes pc = .ok (.iastore, 1)) (hq : pc + 1 = q)
    (r : ∀ h', Wr h h' a i (.int x) → Arv Z h' a k .int z (vs.set i (.int x)) d → Rn w l R n0 Q q Ls S h' cs ss) : Rn w l R n0 Q pc Ls (.int x :: .int j :: .ref a :: S) h cs ss := fun T locs X eT N => by
  subst hq hi
  obtain ⟨c, A1, A2, A3, A4, A5, A6⟩ := A
  obtain ⟨T', h', X', e', W, st⟩ := stI X K.x K.z eT A1 (inb_of A3 hj) (g := mkF w.m pc Ls (.int x :: .int j :: .ref a :: S)) rfl rfl (hb K.cd hd)
  obtain ⟨s₂, o, h1, r'⟩ := r h' W (Arv.set A1 A2 A3 A4 A5 A6 rfl W _ rfl hi') T' _ X' e' (Fr.snoc X' N hg)
  exact ⟨s₂, o, st _ h1, r'⟩
theorem Rn.lastore (K : Cx w Z a0 own bytes ml rt nm) (A : Arv Z h a k .long z vs d) {x : Int64} (hj : ¬ j < 0 ∧ j < z) {i : Nat} (hi : j.toNatClampNeg = i) (hi' : i < vs.length) (hg : n0 ≤ a) (hd : decode bytes pc = .ok (.lastore, 1)) (hq : pc + 1 = q)
    (r : ∀ h', Wr h h' a i (.long x) → Arv Z h' a k .long z (vs.set i (.long x)) d → Rn w l R n0 Q q Ls S h' cs ss) : Rn w l R n0 Q pc Ls (.long x :: .int j :: .ref a :: S) h cs ss := fun T locs X eT N => by
  subst hq hi
  obtain ⟨c, A1, A2, A3, A4, A5, A6⟩ := A
  obtain ⟨T', h', X', e', W, st⟩ := stJ X K.x K.z eT A1 (inb_of A3 hj) (g := mkF w.m pc Ls (.long x :: .int j :: .ref a :: S)) rfl rfl (hb K.cd hd)
  obtain ⟨s₂, o, h1, r'⟩ := r h' W (Arv.set A1 A2 A3 A4 A5 A6 rfl W _ rfl hi') T' _ X' e' (Fr.snoc X' N hg)
  exact ⟨s₂, o, st _ h1, r'⟩
theorem Rn.castore (K : Cx w Z a0 own bytes ml rt nm) (A : Arv Z h a k .char z vs d) {x : Int32} (hj : ¬ j < 0 ∧ j < z) {i : Nat} (hi : j.toNatClampNeg = i) (hi' : i < vs.length) (hg : n0 ≤ a) (hd : decode bytes pc = .ok (.castore, 1)) (hq : pc + 1 = q)
    (r : ∀ h', Wr h h' a i (.int (nar .char x)) → Arv Z h' a k .char z (vs.set i (.int (nar .char x))) d → Rn w l R n0 Q q Ls S h' cs ss) : Rn w l R n0 Q pc Ls (.int x :: .int j :: .ref a :: S) h cs ss := fun T locs X eT N => by
  subst hq hi
  obtain ⟨c, A1, A2, A3, A4, A5, A6⟩ := A
  obtain ⟨T', h', X', e', W, st⟩ := Jvm.RoadKit.stC X K.x K.z eT A1 (inb_of A3 hj) (g := mkF w.m pc Ls (.int x :: .int j :: .ref a :: S)) rfl rfl (hb K.cd hd)
  obtain ⟨s₂, o, h1, r'⟩ := r h' W (Arv.set A1 A2 A3 A4 A5 A6 (fits_nar_char _) W _ rfl hi') T' _ X' e' (Fr.snoc X' N hg)
  exact ⟨s₂, o, st _ h1, r'⟩
theorem Rn.bastoreZ (K : Cx w Z a0 own bytes ml rt nm) (A : Arv Z h a k .boolean z vs d) {x : Int32} (hj : ¬ j < 0 ∧ j < z) {i : Nat} (hi : j.toNatClampNeg = i) (hi' : i < vs.length) (hg : n0 ≤ a) (hd : decode bytes pc = .ok (.bastore, 1)) (hq : pc + 1 = q)
    (r : ∀ h', Wr h h' a i (.int (nar .boolean x)) → Arv Z h' a k .boolean z (vs.set i (.int (nar .boolean x))) d → Rn w l R n0 Q q Ls S h' cs ss) : Rn w l R n0 Q pc Ls (.int x :: .int j :: .ref a :: S) h cs ss := fun T locs X eT N => by
  subst hq hi
  obtain ⟨c, A1, A2, A3, A4, A5, A6⟩ := A
  obtain ⟨T', h', X', e', W, st⟩ := stZ X K.x K.z eT A1 (inb_of A3 hj) (g := mkF w.m pc Ls (.int x :: .int j :: .ref a :: S)) rfl rfl (hb K.cd hd)
  obtain ⟨s₂, o, h1, r'⟩ := r h' W (Arv.set A1 A2 A3 A4 A5 A6 (fits_nar_bool _) W _ rfl hi') T' _ X' e' (Fr.snoc X' N hg)
  exact ⟨s₂, o, st _ h1, r'⟩
theorem Rn.aastore (K : Cx w Z a0 own bytes ml rt nm) (A : Arv Z h a k ty z vs d) (hty : ty.isReference = true) (F : ∀ c : Cell, Arr Z h a c ty → c.cls = k → Sto Z h a v) (hfit : fits ty v = true) (hj : ¬ j < 0 ∧ j < z) {i : Nat} (hi : j.toNatClampNeg = i) (hi' : i < vs.length) (hg : n0 ≤ a) (hd : decode bytes pc = .ok (.aastore, 1)) (hq : pc + 1 = q)
    (r : ∀ h', Wr h h' a i v → Arv Z h' a k ty z (vs.set i v) d → Rn w l R n0 Q q Ls S h' cs ss) : Rn w l R n0 Q pc Ls (v :: .int j :: .ref a :: S) h cs ss := fun T locs X eT N => by
  subst hq hi
  obtain ⟨c, A1, A2, A3, A4, A5, A6⟩ := A
  obtain ⟨T', h', X', e', W, st⟩ := Jvm.RoadKit.stR X K.x K.z eT A1 (inb_of A3 hj) hty (F c A1 A2) (g := mkF w.m pc Ls (v :: .int j :: .ref a :: S)) rfl rfl (hb K.cd hd)
  obtain ⟨s₂, o, h1, r'⟩ := r h' W (Arv.set A1 A2 A3 A4 A5 A6 hfit W _ rfl hi') T' _ X' e' (Fr.snoc X' N hg)
  exact ⟨s₂, o, st _ h1, r'⟩
theorem Rn.newR (K : Cx w Z a0 own bytes ml rt nm) {i cap : Nat} {C : String} {x : Int32} (hi : Jvm.Cond.classLink own i C ∈ tables_1) (ho : Jvm.Cond.arrayOver (.object C) ∈ tables_1) (hn : ¬ x < 0) (hcap : x.toNatClampNeg ≤ cap) (hb8 : cap * 8 ≤ 536870912) (hc : cs + 1 ≤ R.cells) (hs : ss + cap ≤ R.slots) {ad : String} (had : "[" ++ (FieldType.object C).toString = ad) (hd : decode bytes pc = .ok (.anewarray i, 3)) (hq : pc + 3 = q)
    (r : ∀ b h' k, b = h.size → Ext h h' → Arv Z h' b k (.object C) x [] .null → Exa Z h' b ad → Ovr Z k C → Rn w l R n0 Q q Ls (.ref b :: S) h' (cs + 1) (ss + cap)) : Rn w l R n0 Q pc Ls (.int x :: S) h cs ss := fun T locs X eT N => by
  subst hq
  obtain ⟨T', h', k, X', e', E, A, EA, O, st⟩ := newRE X K.x K.z K.ow (K.hw _ hi) (K.hw _ ho) eT (g := mkF w.m pc Ls (.int x :: S)) rfl (hb K.cd hd) rfl hn hcap hb8 hc hs had
  obtain ⟨s₂, o, h1, r'⟩ := r _ h' k rfl E (Arv.new A hn) EA O T' _ X' e' N
  exact ⟨s₂, o, st _ h1, r'⟩
end Arrays
/-! switches -/
theorem own_lsw {tb : Tables} [Ours tb] {e : Env} {below : List Frame} {T target : State} {m : MethodId} {c : Code} {g : JFrame} (h : At T m c below) (hx : tb.exec = Jvm.exec) (hg : g.method = m) {dflt : Int} {ps : Array (Int × Int)} {len : Nat} {o : Int} {pc0 pc' : Nat} (hpc : g.pc = pc0) (hd : decode c.code g.pc = .ok (.lookupswitch dflt ps, len)) {i : Int32} {rest : List Value} (hs : g.stack = .int i :: rest)
    (hsort : (ps.toList.zip (ps.toList.drop 1)).all (fun (a, next) => a.1 < next.1) = true) (hoff : lookupswitch.offset ps.toList dflt i.toInt = o) (ho : 0 ≤ (pc0 : Int) + o) (hp : ((pc0 : Int) + o).toNat = pc')
    (hr : Steps tb e below (T.setTop { g with pc := pc', stack := rest }) target) : Steps tb e below (T.setTop g) target := by
  subst hg hpc hp hoff
  jvm_step h [h.top, hx, hd, hs, ho, lookupswitch.wp_chain, hsort]
  first | exact hr | exact ⟨by simpa using hsort, hr⟩
theorem Rn.lsw (K : Cx w Z a0 own bytes ml rt nm) {dflt o : Int} {ps : Array (Int × Int)} {len : Nat} {x : Int32} (hd : decode bytes pc = .ok (.lookupswitch dflt ps, len)) (hsort : (ps.toList.zip (ps.toList.drop 1)).all (fun (a, next) => a.1 < next.1) = true) (hoff : lookupswitch.offset ps.toList dflt x.toInt = o) (ho : 0 ≤ (pc : Int) + o) (hq : ((pc : Int) + o).toNat = q) (r : Rn w l R n0 Q q Ls S h cs ss) : Rn w l R n0 Q pc Ls (.int x :: S) h cs ss :=
  Rn.step (fun T locs X t k => own_lsw X.here K.x rfl rfl (hb K.cd hd) rfl hsort hoff ho hq k) r
theorem Rn.tswIn (K : Cx w Z a0 own bytes ml rt nm) {dflt low high o : Int} {offs : Array Int} {len : Nat} {x : Int32} (hd : decode bytes pc = .ok (.tableswitch dflt low high offs, len)) (hin : ¬ (x.toInt < low ∨ x.toInt > high)) (hoff : offs[(x.toInt - low).toNat]? = some o) (ho : 0 ≤ (pc : Int) + o) (hq : ((pc : Int) + o).toNat = q) (r : Rn w l R n0 Q q Ls S h cs ss) : Rn w l R n0 Q pc Ls (.int x :: S) h cs ss :=
  Rn.step (fun T locs X t k => XS.tswIn X.here K.x rfl rfl (hb K.cd hd) rfl hin hoff ho hq k) r
theorem Rn.tswOut (K : Cx w Z a0 own bytes ml rt nm) {dflt low high : Int} {offs : Array Int} {len : Nat} {x : Int32} (hd : decode bytes pc = .ok (.tableswitch dflt low high offs, len)) (hout : x.toInt < low ∨ x.toInt > high) (ho : 0 ≤ (pc : Int) + dflt) (hq : ((pc : Int) + dflt).toNat = q) (r : Rn w l R n0 Q q Ls S h cs ss) : Rn w l R n0 Q pc Ls (.int x :: S) h cs ss :=
  Rn.step (fun T locs X t k => XS.tswOut X.here K.x rfl rfl (hb K.cd hd) rfl hout ho hq k) r
/-! more calls -/
theorem Rn.virtUp (K : Cx w Z a0 own bytes ml rt nm) {index W : Nat} {y z : MethodName} {C owner : String} {b : Addr} {argsL rest : List Value} {bz : ByteArray} {mz : Nat} {rz : Option FieldType} {rm : Room} {Q' : Option Value → Heap → Prop}
    (i1 : Jvm.Cond.methodLink own index y ∈ tables_1) (i2 : Jvm.Cond.sameMethod y.cls owner y.name y.desc ∈ tables_1) (i2' : Jvm.Cond.declares ⟨owner, y.name, y.desc⟩ ∈ tables_1) (i3 : Jvm.Cond.selects C y z ∈ tables_1) (i4 : Jvm.Cond.instanceMethod z ∈ tables_1) (i5 : Jvm.Cond.code z bz mz rz ∈ tables_1) (i6 : Jvm.Cond.initialized z.cls ∈ tables_1)
    (hy : owner ≠ "java/lang/invoke/MethodHandle" ∧ owner ≠ "java/lang/invoke/VarHandle") (M : Met l Z z bz mz rz rm n0 [] (.ref b :: argsL).toArray h Q') (E : Exa Z h b C) (hf : rm.frames + 1 ≤ R.frames) (hlo : W + (mz + 11) + rm.locals ≤ R.locals)
    (hsz : Ls.size = ml) (hlen : ∀ sig, parseMethodDescriptor y.desc = some sig → argsL.length = sig.parameters.length) (hS : S = argsL.reverse ++ .ref b :: rest) (hW : (rest.map fun v => v.category).sum ≤ W)
    (hd : decode bytes pc = .ok (.invokevirtual index, 3)) (hq : pc + 3 = q) (hc : cs + rm.cells ≤ R.cells) (hs : ss + rm.slots ≤ R.slots)
    (r : ∀ v h', Q' v h' → Rn w l R n0 Q q Ls (v.toList ++ rest) h' (cs + rm.cells) (ss + rm.slots)) : Rn w l R n0 Q pc Ls S h cs ss := fun T locs X eT N => by
  subst hq hS
  obtain ⟨cq, kq, qa, qb, qc⟩ := isOf K.z eT E
  obtain ⟨v, _, ⟨T', L', k', n'⟩, -, X', ⟨Lc, hQ, l', y', z'⟩, st⟩ := X.virtualBackUp K.x (x := y) (y := z) K.ow (mvT K.z (K.hw _ i1)) (mvT K.z (K.hw _ i2)) (mvT K.z (K.hw _ i2')) hy (mvT K.z (K.hw _ i3)) (mvT K.z (K.hw _ i4)) (backOf (Q := fun v h L => Fr n0 L ∧ Q' v h) (W := W) M K.z (K.hw _ i5) (K.hw _ i6) hf hlo) qa qc (g := mkF w.m pc Ls (argsL.reverse ++ .ref b :: rest)) rfl (hsz.trans K.mx.symm) (Steps.refl _) (argsL := argsL) (rest := rest) hlen rfl (by show 2 * 0 + _ ≤ _; rw [Nat.mul_zero, Nat.zero_add]; exact hW) (hb K.cd hd) (fun _ _ => ⟨rfl, eT, hc, hs⟩)
  dsimp only [Pt.U, Pt.locs, Pt.cells, Pt.slots] at X' l' y' z' st hQ
  subst l' y' z'
  obtain ⟨s₂, o, h1, r'⟩ := r v T'.heap hQ.2 T' _ X' rfl (Fr.app N hQ.1)
  exact ⟨s₂, o, st.trans h1, r'⟩
theorem Rn.priv (K : Cx w Z a0 own bytes ml rt nm) {index W : Nat} {y : MethodName} {C : String} {b : Addr} {argsL rest : List Value} {bz : ByteArray} {mz : Nat} {rz : Option FieldType} {rm : Room} {Q' : Option Value → Heap → Prop}
    (i1 : Jvm.Cond.methodLink own index y ∈ tables_1) (i4 : Jvm.Cond.instanceMethod y ∈ tables_1) (i3 : Jvm.Cond.selects y.cls y y ∈ tables_1) (i7 : Jvm.Cond.privateMethod y ∈ tables_1) (i5 : Jvm.Cond.code y bz mz rz ∈ tables_1) (i6 : Jvm.Cond.initialized y.cls ∈ tables_1)
    (hy : y.cls ≠ "java/lang/invoke/MethodHandle" ∧ y.cls ≠ "java/lang/invoke/VarHandle") (M : Met l Z y bz mz rz rm n0 [] (.ref b :: argsL).toArray h Q') (E : Exa Z h b C) (hf : rm.frames + 1 ≤ R.frames) (hlo : W + (mz + 11) + rm.locals ≤ R.locals)
    (hsz : Ls.size = ml) (hlen : ∀ sig, parseMethodDescriptor y.desc = some sig → argsL.length = sig.parameters.length) (hS : S = argsL.reverse ++ .ref b :: rest) (hW : (rest.map fun v => v.category).sum ≤ W)
    (hd : decode bytes pc = .ok (.invokevirtual index, 3)) (hq : pc + 3 = q) (hc : cs + rm.cells ≤ R.cells) (hs : ss + rm.slots ≤ R.slots)
    (r : ∀ v h', Q' v h' → Rn w l R n0 Q q Ls (v.toList ++ rest) h' (cs + rm.cells) (ss + rm.slots)) : Rn w l R n0 Q pc Ls S h cs ss := fun T locs X eT N => by
  subst hq hS
  obtain ⟨cq, q1, q2⟩ := E.cell
  obtain ⟨v, _, ⟨T', L', k', n'⟩, -, X', ⟨Lc, hQ, l', y', z'⟩, st⟩ := X.privateBack K.x (y := y) K.ow (mvT K.z (K.hw _ i1)) (mvT K.z (K.hw _ i4)) (mvT K.z (K.hw _ i3)) (Cond.privateMethod_at (mvP K.z (K.hw _ i7) (args := #[]))) (mvT K.z (K.hw _ i5)) hy (backOf (Q := fun v h L => Fr n0 L ∧ Q' v h) (W := W) M K.z (K.hw _ i5) (K.hw _ i6) hf hlo) (g := mkF w.m pc Ls (argsL.reverse ++ .ref b :: rest)) rfl (hsz.trans K.mx.symm) (Steps.refl _) (a := b) (by rw [eT]; exact q1) q2 (argsL := argsL) (rest := rest) hlen rfl (by show 2 * 0 + _ ≤ _; rw [Nat.mul_zero, Nat.zero_add]; exact hW) (hb K.cd hd) (fun _ _ => ⟨rfl, eT, hc, hs⟩)
  dsimp only [Pt.U, Pt.locs, Pt.cells, Pt.slots] at X' l' y' z' st hQ
  subst l' y' z'
  obtain ⟨s₂, o, h1, r'⟩ := r v T'.heap hQ.2 T' _ X' rfl (Fr.app N hQ.1)
  exact ⟨s₂, o, st.trans h1, r'⟩
theorem Rn.castY (K : Cx w Z a0 own bytes ml rt nm) {i : Nat} {C : String} {a : Addr} (hi : Jvm.Cond.classLink own i C ∈ tables_1) (I : Ins Z h a C true) (hd : decode bytes pc = .ok (.checkcast i, 3)) (hq : pc + 3 = q) (r : Rn w l R n0 Q q Ls (.ref a :: S) h cs ss) : Rn w l R n0 Q pc Ls (.ref a :: S) h cs ss := fun T locs X eT N => by
  subst hq
  obtain ⟨T', X', e', st⟩ := Jvm.RoadKit.castY X K.x K.z K.ow (K.hw _ hi) eT I (g := mkF w.m pc Ls (.ref a :: S)) rfl rfl (hb K.cd hd)
  obtain ⟨s₂, o, h1, r'⟩ := r T' locs X' e' N
  exact ⟨s₂, o, st _ h1, r'⟩
end OwnKit2

theorem pd_0 : parseMethodDescriptor "()I" = some ⟨[], some .int⟩ := by decide +kernel
theorem pd_1 : parseMethodDescriptor "()Z" = some ⟨[], some .boolean⟩ := by decide +kernel
theorem d2_0 : decode jdk_37_method_2_code 0 = .ok (.aload_n 0, 1) := by decide +kernel
theorem d2_1 : decode jdk_37_method_2_code 1 = .ok (.getfield 7, 3) := by decide +kernel
theorem d2_4 : decode jdk_37_method_2_code 4 = .ok (.ireturn, 1) := by decide +kernel
theorem pn_m_ord : plainName "java/lang/Enum" = true := by first | (simp [plainName, overriddenIn]; done) | decide +kernel
set_option maxRecDepth 65536 in
set_option maxHeartbeats 40000000 in
theorem m_ord (l : Launch) (Z : State) (a0 : Array Value) (hw : ∀ d ∈ tables_1, d.before a0 Z = true) (n0 : Nat) (h0 : Heap) (a1 : Addr) (k : Int32) (F : Fld Z h0 a1 "java/lang/Enum" "ordinal" "I" (.int k)) :
    Met l Z (⟨"java/lang/Enum", "ordinal", "()I"⟩ : MethodName) jdk_37_method_2_code 1 (some .int) ({ frames := 0, cells := 0, slots := 0, locals := 0 } : Room) n0 [] #[(.ref a1)] h0 (fun v h => v = some (.int k) ∧ h0 = h) := by
  refine Met.intro (Ls := #[.val (.ref a1)]) (plainFor_of_name pn_m_ord) hw (fun m => by first | rfl | (simp [entryFrame, mkF, argsToLocals, Value.category]; done)) ?_
  intro w K0
  have K : Cx w Z a0 "java/lang/Enum" jdk_37_method_2_code 1 (some .int) "ordinal" := K0
  refine Rn.aloadN K (q := 1) d2_0 rfl rfl rfl ?_
  refine Rn.getF K (q := 4) (List.mem_of_getElem? (i := 61) rfl) Via.refl F d2_1 rfl ?_
  exact Rn.retI K rfl d2_4 (by decide) (by decide) ⟨rfl, rfl⟩
theorem d1_0 : decode prog_66_method_8_code 0 = .ok (.aload_n 0, 1) := by decide +kernel
theorem d1_1 : decode prog_66_method_8_code 1 = .ok (.invokevirtual 115, 3) := by decide +kernel
theorem d1_4 : decode prog_66_method_8_code 4 = .ok (.lookupswitch 48 #[(9, 44), (10, 44), (11, 44), (21, 44)], 44) := by decide +kernel
theorem d1_48 : decode prog_66_method_8_code 48 = .ok (.iconst 1, 1) := by decide +kernel
theorem d1_49 : decode prog_66_method_8_code 49 = .ok (.goto 4, 3) := by decide +kernel
theorem d1_53 : decode prog_66_method_8_code 53 = .ok (.ireturn, 1) := by decide +kernel
theorem pn_m_conY : plainName "com/example/intreccio/intreccio/model/IpacClass" = true := by first | (simp [plainName, overriddenIn]; done) | decide +kernel
set_option maxRecDepth 65536 in
set_option maxHeartbeats 40000000 in
theorem m_conY (l : Launch) (Z : State) (a0 : Array Value) (hw : ∀ d ∈ tables_1, d.before a0 Z = true) (n0 : Nat) (h0 : Heap) (a1 : Addr) (k : Int32) (F : Fld Z h0 a1 "java/lang/Enum" "ordinal" "I" (.int k)) (E : Exa Z h0 a1 "com/example/intreccio/intreccio/model/IpacClass") (hoff : lookupswitch.offset [(9, 44), (10, 44), (11, 44), (21, 44)] 48 k.toInt = 44) :
    Met l Z (⟨"com/example/intreccio/intreccio/model/IpacClass", "isConcept", "()Z"⟩ : MethodName) prog_66_method_8_code 1 (some .boolean) ({ frames := 1, cells := 0, slots := 0, locals := 12 } : Room) n0 [] #[(.ref a1)] h0 (fun v h => v = some (.int (1 : Int32)) ∧ h0 = h) := by
  refine Met.intro (Ls := #[.val (.ref a1)]) (plainFor_of_name pn_m_conY) hw (fun m => by first | rfl | (simp [entryFrame, mkF, argsToLocals, Value.category]; done)) ?_
  intro w K0
  have K : Cx w Z a0 "com/example/intreccio/intreccio/model/IpacClass" prog_66_method_8_code 1 (some .boolean) "isConcept" := K0
  refine Rn.aloadN K (q := 1) d1_0 rfl rfl rfl ?_
  refine Rn.virtUp K (q := 4) (W := 0) (y := (⟨"com/example/intreccio/intreccio/model/IpacClass", "ordinal", "()I"⟩ : MethodName)) (z := (⟨"java/lang/Enum", "ordinal", "()I"⟩ : MethodName)) (b := a1) (argsL := []) (rest := []) (List.mem_of_getElem? (i := 54) rfl) (List.mem_of_getElem? (i := 55) rfl) (List.mem_of_getElem? (i := 56) rfl) (List.mem_of_getElem? (i := 58) rfl) (List.mem_of_getElem? (i := 57) rfl) (List.mem_of_getElem? (i := 60) rfl) (List.mem_of_getElem? (i := 59) rfl) (by decide) (m_ord l Z a0 hw n0 h0 a1 k F) E (by decide) (by decide) rfl (lenOf pd_0 rfl) rfl (Nat.le_of_ble_eq_true rfl) d1_1 rfl (by decide) (by decide) ?_
  rintro _ _ ⟨rfl, rfl⟩
  show Rn w l _ n0 _ 4 #[.val (.ref a1)] [(.int k)] h0 0 0
  refine Rn.lsw K (q := 48) (o := 44) d1_4 (by decide) hoff (by decide) (by decide) ?_
  refine Rn.iconst K (q := 49) (1 : Int32) d1_48 rfl rfl ?_
  refine Rn.goto K (q := 53) d1_49 (by decide) (by decide) ?_
  exact Rn.retN K .boolean rfl (by simp) d1_53 (by decide) (by decide) ⟨rfl, rfl⟩
theorem d1_52 : decode prog_66_method_8_code 52 = .ok (.iconst 0, 1) := by decide +kernel
theorem pn_m_conN : plainName "com/example/intreccio/intreccio/model/IpacClass" = true := by first | (simp [plainName, overriddenIn]; done) | decide +kernel
set_option maxRecDepth 65536 in
set_option maxHeartbeats 40000000 in
theorem m_conN (l : Launch) (Z : State) (a0 : Array Value) (hw : ∀ d ∈ tables_1, d.before a0 Z = true) (n0 : Nat) (h0 : Heap) (a1 : Addr) (k : Int32) (F : Fld Z h0 a1 "java/lang/Enum" "ordinal" "I" (.int k)) (E : Exa Z h0 a1 "com/example/intreccio/intreccio/model/IpacClass") (hoff : lookupswitch.offset [(9, 44), (10, 44), (11, 44), (21, 44)] 48 k.toInt = 48) :
    Met l Z (⟨"com/example/intreccio/intreccio/model/IpacClass", "isConcept", "()Z"⟩ : MethodName) prog_66_method_8_code 1 (some .boolean) ({ frames := 1, cells := 0, slots := 0, locals := 12 } : Room) n0 [] #[(.ref a1)] h0 (fun v h => v = some (.int (0 : Int32)) ∧ h0 = h) := by
  refine Met.intro (Ls := #[.val (.ref a1)]) (plainFor_of_name pn_m_conN) hw (fun m => by first | rfl | (simp [entryFrame, mkF, argsToLocals, Value.category]; done)) ?_
  intro w K0
  have K : Cx w Z a0 "com/example/intreccio/intreccio/model/IpacClass" prog_66_method_8_code 1 (some .boolean) "isConcept" := K0
  refine Rn.aloadN K (q := 1) d1_0 rfl rfl rfl ?_
  refine Rn.virtUp K (q := 4) (W := 0) (y := (⟨"com/example/intreccio/intreccio/model/IpacClass", "ordinal", "()I"⟩ : MethodName)) (z := (⟨"java/lang/Enum", "ordinal", "()I"⟩ : MethodName)) (b := a1) (argsL := []) (rest := []) (List.mem_of_getElem? (i := 54) rfl) (List.mem_of_getElem? (i := 55) rfl) (List.mem_of_getElem? (i := 56) rfl) (List.mem_of_getElem? (i := 58) rfl) (List.mem_of_getElem? (i := 57) rfl) (List.mem_of_getElem? (i := 60) rfl) (List.mem_of_getElem? (i := 59) rfl) (by decide) (m_ord l Z a0 hw n0 h0 a1 k F) E (by decide) (by decide) rfl (lenOf pd_0 rfl) rfl (Nat.le_of_ble_eq_true rfl) d1_1 rfl (by decide) (by decide) ?_
  rintro _ _ ⟨rfl, rfl⟩
  show Rn w l _ n0 _ 4 #[.val (.ref a1)] [(.int k)] h0 0 0
  refine Rn.lsw K (q := 52) (o := 48) d1_4 (by decide) hoff (by decide) (by decide) ?_
  refine Rn.iconst K (q := 53) (0 : Int32) d1_52 rfl rfl ?_
  exact Rn.retN K .boolean rfl (by simp) d1_53 (by decide) (by decide) ⟨rfl, rfl⟩
theorem d3_0 : decode prog_66_method_7_code 0 = .ok (.aload_n 0, 1) := by decide +kernel
theorem d3_1 : decode prog_66_method_7_code 1 = .ok (.invokevirtual 115, 3) := by decide +kernel
theorem d3_4 : decode prog_66_method_7_code 4 = .ok (.tableswitch 32 2 4 #[28, 28, 28], 28) := by decide +kernel
theorem d3_36 : decode prog_66_method_7_code 36 = .ok (.iconst 0, 1) := by decide +kernel
theorem d3_37 : decode prog_66_method_7_code 37 = .ok (.ireturn, 1) := by decide +kernel
theorem pn_m_agN : plainName "com/example/intreccio/intreccio/model/IpacClass" = true := by first | (simp [plainName, overriddenIn]; done) | decide +kernel
set_option maxRecDepth 65536 in
set_option maxHeartbeats 40000000 in
theorem m_agN (l : Launch) (Z : State) (a0 : Array Value) (hw : ∀ d ∈ tables_1, d.before a0 Z = true) (n0 : Nat) (h0 : Heap) (a1 : Addr) (k : Int32) (F : Fld Z h0 a1 "java/lang/Enum" "ordinal" "I" (.int k)) (E : Exa Z h0 a1 "com/example/intreccio/intreccio/model/IpacClass") (hout : k.toInt < 2 ∨ k.toInt > 4) :
    Met l Z (⟨"com/example/intreccio/intreccio/model/IpacClass", "isAgent", "()Z"⟩ : MethodName) prog_66_method_7_code 1 (some .boolean) ({ frames := 1, cells := 0, slots := 0, locals := 12 } : Room) n0 [] #[(.ref a1)] h0 (fun v h => v = some (.int (0 : Int32)) ∧ h0 = h) := by
  refine Met.intro (Ls := #[.val (.ref a1)]) (plainFor_of_name pn_m_agN) hw (fun m => by first | rfl | (simp [entryFrame, mkF, argsToLocals, Value.category]; done)) ?_
  intro w K0
  have K : Cx w Z a0 "com/example/intreccio/intreccio/model/IpacClass" prog_66_method_7_code 1 (some .boolean) "isAgent" := K0
  refine Rn.aloadN K (q := 1) d3_0 rfl rfl rfl ?_
  refine Rn.virtUp K (q := 4) (W := 0) (y := (⟨"com/example/intreccio/intreccio/model/IpacClass", "ordinal", "()I"⟩ : MethodName)) (z := (⟨"java/lang/Enum", "ordinal", "()I"⟩ : MethodName)) (b := a1) (argsL := []) (rest := []) (List.mem_of_getElem? (i := 54) rfl) (List.mem_of_getElem? (i := 55) rfl) (List.mem_of_getElem? (i := 56) rfl) (List.mem_of_getElem? (i := 58) rfl) (List.mem_of_getElem? (i := 57) rfl) (List.mem_of_getElem? (i := 60) rfl) (List.mem_of_getElem? (i := 59) rfl) (by decide) (m_ord l Z a0 hw n0 h0 a1 k F) E (by decide) (by decide) rfl (lenOf pd_0 rfl) rfl (Nat.le_of_ble_eq_true rfl) d3_1 rfl (by decide) (by decide) ?_
  rintro _ _ ⟨rfl, rfl⟩
  show Rn w l _ n0 _ 4 #[.val (.ref a1)] [(.int k)] h0 0 0
  refine Rn.tswOut K (q := 36) d3_4 hout (by decide) (by decide) ?_
  refine Rn.iconst K (q := 37) (0 : Int32) d3_36 rfl rfl ?_
  exact Rn.retN K .boolean rfl (by simp) d3_37 (by decide) (by decide) ⟨rfl, rfl⟩
theorem pn_m_law : plainName "com/example/intreccio/intreccio/model/IpacClassIsConceptPinLaw" = true := by first | (simp [plainName, overriddenIn]; done) | decide +kernel
set_option maxRecDepth 65536 in
set_option maxHeartbeats 40000000 in
theorem m_law (l : Launch) (Z : State) (a0 : Array Value) (hw : ∀ d ∈ tables_1, d.before a0 Z = true) (n0 : Nat) (h0 : Heap) (p1 : Int32) (aENTITA_CULTURALE aEVENTO aPERSONA aORGANIZZAZIONE aFAMIGLIA aNOME aIDENTIFICATIVO aPERIODO_DI_TEMPO aCOINVOLGIMENTO aTIPOLOGIA aRUOLO aMOTIVO_ATTRIBUZIONE aLUOGO_FISICO aCONTENITORE_FISICO aINDIRIZZO aCITTA aPROVINCIA aREGIONE aPAESE aGEOMETRIA aSOGGETTO aCONCETTO : Addr) (X0 : Old Z n0 h0) (SENTITA_CULTURALE : Sta Z Z.heap "com/example/intreccio/intreccio/model/IpacClass" "ENTITA_CULTURALE" "Lcom/example/intreccio/intreccio/model/IpacClass;" (.ref aENTITA_CULTURALE)) (SEVENTO : Sta Z Z.heap "com/example/intreccio/intreccio/model/IpacClass" "EVENTO" "Lcom/example/intreccio/intreccio/model/IpacClass;" (.ref aEVENTO)) (SPERSONA : Sta Z Z.heap "com/example/intreccio/intreccio/model/IpacClass" "PERSONA" "Lcom/example/intreccio/intreccio/model/IpacClass;" (.ref aPERSONA)) (SORGANIZZAZIONE : Sta Z Z.heap "com/example/intreccio/intreccio/model/IpacClass" "ORGANIZZAZIONE" "Lcom/example/intreccio/intreccio/model/IpacClass;" (.ref aORGANIZZAZIONE)) (SFAMIGLIA : Sta Z Z.heap "com/example/intreccio/intreccio/model/IpacClass" "FAMIGLIA" "Lcom/example/intreccio/intreccio/model/IpacClass;" (.ref aFAMIGLIA)) (SNOME : Sta Z Z.heap "com/example/intreccio/intreccio/model/IpacClass" "NOME" "Lcom/example/intreccio/intreccio/model/IpacClass;" (.ref aNOME)) (SIDENTIFICATIVO : Sta Z Z.heap "com/example/intreccio/intreccio/model/IpacClass" "IDENTIFICATIVO" "Lcom/example/intreccio/intreccio/model/IpacClass;" (.ref aIDENTIFICATIVO)) (SPERIODO_DI_TEMPO : Sta Z Z.heap "com/example/intreccio/intreccio/model/IpacClass" "PERIODO_DI_TEMPO" "Lcom/example/intreccio/intreccio/model/IpacClass;" (.ref aPERIODO_DI_TEMPO)) (SCOINVOLGIMENTO : Sta Z Z.heap "com/example/intreccio/intreccio/model/IpacClass" "COINVOLGIMENTO" "Lcom/example/intreccio/intreccio/model/IpacClass;" (.ref aCOINVOLGIMENTO)) (STIPOLOGIA : Sta Z Z.heap "com/example/intreccio/intreccio/model/IpacClass" "TIPOLOGIA" "Lcom/example/intreccio/intreccio/model/IpacClass;" (.ref aTIPOLOGIA)) (SRUOLO : Sta Z Z.heap "com/example/intreccio/intreccio/model/IpacClass" "RUOLO" "Lcom/example/intreccio/intreccio/model/IpacClass;" (.ref aRUOLO)) (SMOTIVO_ATTRIBUZIONE : Sta Z Z.heap "com/example/intreccio/intreccio/model/IpacClass" "MOTIVO_ATTRIBUZIONE" "Lcom/example/intreccio/intreccio/model/IpacClass;" (.ref aMOTIVO_ATTRIBUZIONE)) (SLUOGO_FISICO : Sta Z Z.heap "com/example/intreccio/intreccio/model/IpacClass" "LUOGO_FISICO" "Lcom/example/intreccio/intreccio/model/IpacClass;" (.ref aLUOGO_FISICO)) (SCONTENITORE_FISICO : Sta Z Z.heap "com/example/intreccio/intreccio/model/IpacClass" "CONTENITORE_FISICO" "Lcom/example/intreccio/intreccio/model/IpacClass;" (.ref aCONTENITORE_FISICO)) (SINDIRIZZO : Sta Z Z.heap "com/example/intreccio/intreccio/model/IpacClass" "INDIRIZZO" "Lcom/example/intreccio/intreccio/model/IpacClass;" (.ref aINDIRIZZO)) (SCITTA : Sta Z Z.heap "com/example/intreccio/intreccio/model/IpacClass" "CITTA" "Lcom/example/intreccio/intreccio/model/IpacClass;" (.ref aCITTA)) (SPROVINCIA : Sta Z Z.heap "com/example/intreccio/intreccio/model/IpacClass" "PROVINCIA" "Lcom/example/intreccio/intreccio/model/IpacClass;" (.ref aPROVINCIA)) (SREGIONE : Sta Z Z.heap "com/example/intreccio/intreccio/model/IpacClass" "REGIONE" "Lcom/example/intreccio/intreccio/model/IpacClass;" (.ref aREGIONE)) (SPAESE : Sta Z Z.heap "com/example/intreccio/intreccio/model/IpacClass" "PAESE" "Lcom/example/intreccio/intreccio/model/IpacClass;" (.ref aPAESE)) (SGEOMETRIA : Sta Z Z.heap "com/example/intreccio/intreccio/model/IpacClass" "GEOMETRIA" "Lcom/example/intreccio/intreccio/model/IpacClass;" (.ref aGEOMETRIA)) (SSOGGETTO : Sta Z Z.heap "com/example/intreccio/intreccio/model/IpacClass" "SOGGETTO" "Lcom/example/intreccio/intreccio/model/IpacClass;" (.ref aSOGGETTO)) (SCONCETTO : Sta Z Z.heap "com/example/intreccio/intreccio/model/IpacClass" "CONCETTO" "Lcom/example/intreccio/intreccio/model/IpacClass;" (.ref aCONCETTO)) (NENTITA_CULTURALE : Enm Z Z.heap "com/example/intreccio/intreccio/model/IpacClass" aENTITA_CULTURALE (0 : Int32)) (NEVENTO : Enm Z Z.heap "com/example/intreccio/intreccio/model/IpacClass" aEVENTO (1 : Int32)) (NPERSONA : Enm Z Z.heap "com/example/intreccio/intreccio/model/IpacClass" aPERSONA (2 : Int32)) (NORGANIZZAZIONE : Enm Z Z.heap "com/example/intreccio/intreccio/model/IpacClass" aORGANIZZAZIONE (3 : Int32)) (NFAMIGLIA : Enm Z Z.heap "com/example/intreccio/intreccio/model/IpacClass" aFAMIGLIA (4 : Int32)) (NNOME : Enm Z Z.heap "com/example/intreccio/intreccio/model/IpacClass" aNOME (5 : Int32)) (NIDENTIFICATIVO : Enm Z Z.heap "com/example/intreccio/intreccio/model/IpacClass" aIDENTIFICATIVO (6 : Int32)) (NPERIODO_DI_TEMPO : Enm Z Z.heap "com/example/intreccio/intreccio/model/IpacClass" aPERIODO_DI_TEMPO (7 : Int32)) (NCOINVOLGIMENTO : Enm Z Z.heap "com/example/intreccio/intreccio/model/IpacClass" aCOINVOLGIMENTO (8 : Int32)) (NTIPOLOGIA : Enm Z Z.heap "com/example/intreccio/intreccio/model/IpacClass" aTIPOLOGIA (9 : Int32)) (NRUOLO : Enm Z Z.heap "com/example/intreccio/intreccio/model/IpacClass" aRUOLO (10 : Int32)) (NMOTIVO_ATTRIBUZIONE : Enm Z Z.heap "com/example/intreccio/intreccio/model/IpacClass" aMOTIVO_ATTRIBUZIONE (11 : Int32)) (NLUOGO_FISICO : Enm Z Z.heap "com/example/intreccio/intreccio/model/IpacClass" aLUOGO_FISICO (12 : Int32)) (NCONTENITORE_FISICO : Enm Z Z.heap "com/example/intreccio/intreccio/model/IpacClass" aCONTENITORE_FISICO (13 : Int32)) (NINDIRIZZO : Enm Z Z.heap "com/example/intreccio/intreccio/model/IpacClass" aINDIRIZZO (14 : Int32)) (NCITTA : Enm Z Z.heap "com/example/intreccio/intreccio/model/IpacClass" aCITTA (15 : Int32)) (NPROVINCIA : Enm Z Z.heap "com/example/intreccio/intreccio/model/IpacClass" aPROVINCIA (16 : Int32)) (NREGIONE : Enm Z Z.heap "com/example/intreccio/intreccio/model/IpacClass" aREGIONE (17 : Int32)) (NPAESE : Enm Z Z.heap "com/example/intreccio/intreccio/model/IpacClass" aPAESE (18 : Int32)) (NGEOMETRIA : Enm Z Z.heap "com/example/intreccio/intreccio/model/IpacClass" aGEOMETRIA (19 : Int32)) (NSOGGETTO : Enm Z Z.heap "com/example/intreccio/intreccio/model/IpacClass" aSOGGETTO (20 : Int32)) (NCONCETTO : Enm Z Z.heap "com/example/intreccio/intreccio/model/IpacClass" aCONCETTO (21 : Int32)) :
    Met l Z x code maxLocals ret room_1 n0 tables_1 #[(.int p1)] h0 (fun v _ => v = some (.int (1 : Int32))) := by
  refine Met.intro (Ls := #[.val (.int p1), .unset, .unset, .unset, .unset, .unset]) (plainFor_of_name pn_m_law) hw (fun m => by first | rfl | (simp [entryFrame, mkF, argsToLocals, Value.category, maxLocals]; done)) ?_
  intro w K0
  have K : Cx w Z a0 "com/example/intreccio/intreccio/model/IpacClassIsConceptPinLaw" code 6 (some .boolean) "law" := K0
  refine Rn.bipush K (q := 2) (22 : Int32) at_0 rfl rfl ?_
  refine Rn.newR K (q := 5) (cap := 22) (List.mem_of_getElem? (i := 0) rfl) (List.mem_of_getElem? (i := 1) rfl) (by decide) (by decide) (by decide) (by decide) (by decide) rfl at_2 rfl ?_
  intro b1 h1 k1 gb1 Eb1 A1 XA1 O1
  have X1 := X0.ext Eb1
  have gn : n0 ≤ b1 := by rw [gb1]; exact X0.1 ▸ X0.2.1
  replace A1 : Arv Z h1 b1 k1 (.object "com/example/intreccio/intreccio/model/IpacClass") (22 : Int32) [.null, .null, .null, .null, .null, .null, .null, .null, .null, .null, .null, .null, .null, .null, .null, .null, .null, .null, .null, .null, .null, .null] .null := A1.pad (pad_rep [] .null 22)
  show Rn w l _ n0 _ 5 #[.val (.int p1), .unset, .unset, .unset, .unset, .unset] [(.ref b1)] h1 1 22
  refine Rn.dup K (q := 6) at_5 rfl rfl ?_
  refine Rn.iconst K (q := 7) (0 : Int32) at_6 rfl rfl ?_
  refine Rn.getS K (q := 10) (List.mem_of_getElem? (i := 2) rfl) (SENTITA_CULTURALE.ext X1.2) at_7 rfl ?_
  refine Rn.aastore K (q := 11) (i := 0) A1 rfl (fun c a1 a2 => Sto.ofV a1 a2 O1 (Ins.self (NENTITA_CULTURALE.1.ext X1.2))) rfl (by decide) rfl (Nat.le_of_ble_eq_true rfl) gn at_10 rfl ?_
  intro h2 W2 A2
  have X2 := X1.wr W2 gn
  replace A2 : Arv Z h2 b1 k1 (.object "com/example/intreccio/intreccio/model/IpacClass") (22 : Int32) [(.ref aENTITA_CULTURALE), .null, .null, .null, .null, .null, .null, .null, .null, .null, .null, .null, .null, .null, .null, .null, .null, .null, .null, .null, .null, .null] .null := A2
  refine Rn.dup K (q := 12) at_11 rfl rfl ?_
  refine Rn.iconst K (q := 13) (1 : Int32) at_12 rfl rfl ?_
  refine Rn.getS K (q := 16) (List.mem_of_getElem? (i := 6) rfl) (SEVENTO.ext X2.2) at_13 rfl ?_
  refine Rn.aastore K (q := 17) (i := 1) A2 rfl (fun c a1 a2 => Sto.ofV a1 a2 O1 (Ins.self (NEVENTO.1.ext X2.2))) rfl (by decide) rfl (Nat.le_of_ble_eq_true rfl) gn at_16 rfl ?_
  intro h3 W3 A3
  have X3 := X2.wr W3 gn
  replace A3 : Arv Z h3 b1 k1 (.object "com/example/intreccio/intreccio/model/IpacClass") (22 : Int32) [(.ref aENTITA_CULTURALE), (.ref aEVENTO), .null, .null, .null, .null, .null, .null, .null, .null, .null, .null, .null, .null, .null, .null, .null, .null, .null, .null, .null, .null] .null := A3
  refine Rn.dup K (q := 18) at_17 rfl rfl ?_
  refine Rn.iconst K (q := 19) (2 : Int32) at_18 rfl rfl ?_
  refine Rn.getS K (q := 22) (List.mem_of_getElem? (i := 8) rfl) (SPERSONA.ext X3.2) at_19 rfl ?_
  refine Rn.aastore K (q := 23) (i := 2) A3 rfl (fun c a1 a2 => Sto.ofV a1 a2 O1 (Ins.self (NPERSONA.1.ext X3.2))) rfl (by decide) rfl (Nat.le_of_ble_eq_true rfl) gn at_22 rfl ?_
  intro h4 W4 A4
  have X4 := X3.wr W4 gn
  replace A4 : Arv Z h4 b1 k1 (.object "com/example/intreccio/intreccio/model/IpacClass") (22 : Int32) [(.ref aENTITA_CULTURALE), (.ref aEVENTO), (.ref aPERSONA), .null, .null, .null, .null, .null, .null, .null, .null, .null, .null, .null, .null, .null, .null, .null, .null, .null, .null, .null] .null := A4
  refine Rn.dup K (q := 24) at_23 rfl rfl ?_
  refine Rn.iconst K (q := 25) (3 : Int32) at_24 rfl rfl ?_
  refine Rn.getS K (q := 28) (List.mem_of_getElem? (i := 10) rfl) (SORGANIZZAZIONE.ext X4.2) at_25 rfl ?_
  refine Rn.aastore K (q := 29) (i := 3) A4 rfl (fun c a1 a2 => Sto.ofV a1 a2 O1 (Ins.self (NORGANIZZAZIONE.1.ext X4.2))) rfl (by decide) rfl (Nat.le_of_ble_eq_true rfl) gn at_28 rfl ?_
  intro h5 W5 A5
  have X5 := X4.wr W5 gn
  replace A5 : Arv Z h5 b1 k1 (.object "com/example/intreccio/intreccio/model/IpacClass") (22 : Int32) [(.ref aENTITA_CULTURALE), (.ref aEVENTO), (.ref aPERSONA), (.ref aORGANIZZAZIONE), .null, .null, .null, .null, .null, .null, .null, .null, .null, .null, .null, .null, .null, .null, .null, .null, .null, .null] .null := A5
  refine Rn.dup K (q := 30) at_29 rfl rfl ?_
  refine Rn.iconst K (q := 31) (4 : Int32) at_30 rfl rfl ?_
  refine Rn.getS K (q := 34) (List.mem_of_getElem? (i := 12) rfl) (SFAMIGLIA.ext X5.2) at_31 rfl ?_
  refine Rn.aastore K (q := 35) (i := 4) A5 rfl (fun c a1 a2 => Sto.ofV a1 a2 O1 (Ins.self (NFAMIGLIA.1.ext X5.2))) rfl (by decide) rfl (Nat.le_of_ble_eq_true rfl) gn at_34 rfl ?_
  intro h6 W6 A6
  have X6 := X5.wr W6 gn
  replace A6 : Arv Z h6 b1 k1 (.object "com/example/intreccio/intreccio/model/IpacClass") (22 : Int32) [(.ref aENTITA_CULTURALE), (.ref aEVENTO), (.ref aPERSONA), (.ref aORGANIZZAZIONE), (.ref aFAMIGLIA), .null, .null, .null, .null, .null, .null, .null, .null, .null, .null, .null, .null, .null, .null, .null, .null, .null] .null := A6
  refine Rn.dup K (q := 36) at_35 rfl rfl ?_
  refine Rn.iconst K (q := 37) (5 : Int32) at_36 rfl rfl ?_
  refine Rn.getS K (q := 40) (List.mem_of_getElem? (i := 14) rfl) (SNOME.ext X6.2) at_37 rfl ?_
  refine Rn.aastore K (q := 41) (i := 5) A6 rfl (fun c a1 a2 => Sto.ofV a1 a2 O1 (Ins.self (NNOME.1.ext X6.2))) rfl (by decide) rfl (Nat.le_of_ble_eq_true rfl) gn at_40 rfl ?_
  intro h7 W7 A7
  have X7 := X6.wr W7 gn
  replace A7 : Arv Z h7 b1 k1 (.object "com/example/intreccio/intreccio/model/IpacClass") (22 : Int32) [(.ref aENTITA_CULTURALE), (.ref aEVENTO), (.ref aPERSONA), (.ref aORGANIZZAZIONE), (.ref aFAMIGLIA), (.ref aNOME), .null, .null, .null, .null, .null, .null, .null, .null, .null, .null, .null, .null, .null, .null, .null, .null] .null := A7
  refine Rn.dup K (q := 42) at_41 rfl rfl ?_
  refine Rn.bipush K (q := 44) (6 : Int32) at_42 rfl rfl ?_
  refine Rn.getS K (q := 47) (List.mem_of_getElem? (i := 16) rfl) (SIDENTIFICATIVO.ext X7.2) at_44 rfl ?_
  refine Rn.aastore K (q := 48) (i := 6) A7 rfl (fun c a1 a2 => Sto.ofV a1 a2 O1 (Ins.self (NIDENTIFICATIVO.1.ext X7.2))) rfl (by decide) rfl (Nat.le_of_ble_eq_true rfl) gn at_47 rfl ?_
  intro h8 W8 A8
  have X8 := X7.wr W8 gn
  replace A8 : Arv Z h8 b1 k1 (.object "com/example/intreccio/intreccio/model/IpacClass") (22 : Int32) [(.ref aENTITA_CULTURALE), (.ref aEVENTO), (.ref aPERSONA), (.ref aORGANIZZAZIONE), (.ref aFAMIGLIA), (.ref aNOME), (.ref aIDENTIFICATIVO), .null, .null, .null, .null, .null, .null, .null, .null, .null, .null, .null, .null, .null, .null, .null] .null := A8
  refine Rn.dup K (q := 49) at_48 rfl rfl ?_
  refine Rn.bipush K (q := 51) (7 : Int32) at_49 rfl rfl ?_
  refine Rn.getS K (q := 54) (List.mem_of_getElem? (i := 18) rfl) (SPERIODO_DI_TEMPO.ext X8.2) at_51 rfl ?_
  refine Rn.aastore K (q := 55) (i := 7) A8 rfl (fun c a1 a2 => Sto.ofV a1 a2 O1 (Ins.self (NPERIODO_DI_TEMPO.1.ext X8.2))) rfl (by decide) rfl (Nat.le_of_ble_eq_true rfl) gn at_54 rfl ?_
  intro h9 W9 A9
  have X9 := X8.wr W9 gn
  replace A9 : Arv Z h9 b1 k1 (.object "com/example/intreccio/intreccio/model/IpacClass") (22 : Int32) [(.ref aENTITA_CULTURALE), (.ref aEVENTO), (.ref aPERSONA), (.ref aORGANIZZAZIONE), (.ref aFAMIGLIA), (.ref aNOME), (.ref aIDENTIFICATIVO), (.ref aPERIODO_DI_TEMPO), .null, .null, .null, .null, .null, .null, .null, .null, .null, .null, .null, .null, .null, .null] .null := A9
  refine Rn.dup K (q := 56) at_55 rfl rfl ?_
  refine Rn.bipush K (q := 58) (8 : Int32) at_56 rfl rfl ?_
  refine Rn.getS K (q := 61) (List.mem_of_getElem? (i := 20) rfl) (SCOINVOLGIMENTO.ext X9.2) at_58 rfl ?_
  refine Rn.aastore K (q := 62) (i := 8) A9 rfl (fun c a1 a2 => Sto.ofV a1 a2 O1 (Ins.self (NCOINVOLGIMENTO.1.ext X9.2))) rfl (by decide) rfl (Nat.le_of_ble_eq_true rfl) gn at_61 rfl ?_
  intro h10 W10 A10
  have X10 := X9.wr W10 gn
  replace A10 : Arv Z h10 b1 k1 (.object "com/example/intreccio/intreccio/model/IpacClass") (22 : Int32) [(.ref aENTITA_CULTURALE), (.ref aEVENTO), (.ref aPERSONA), (.ref aORGANIZZAZIONE), (.ref aFAMIGLIA), (.ref aNOME), (.ref aIDENTIFICATIVO), (.ref aPERIODO_DI_TEMPO), (.ref aCOINVOLGIMENTO), .null, .null, .null, .null, .null, .null, .null, .null, .null, .null, .null, .null, .null] .null := A10
  refine Rn.dup K (q := 63) at_62 rfl rfl ?_
  refine Rn.bipush K (q := 65) (9 : Int32) at_63 rfl rfl ?_
  refine Rn.getS K (q := 68) (List.mem_of_getElem? (i := 22) rfl) (STIPOLOGIA.ext X10.2) at_65 rfl ?_
  refine Rn.aastore K (q := 69) (i := 9) A10 rfl (fun c a1 a2 => Sto.ofV a1 a2 O1 (Ins.self (NTIPOLOGIA.1.ext X10.2))) rfl (by decide) rfl (Nat.le_of_ble_eq_true rfl) gn at_68 rfl ?_
  intro h11 W11 A11
  have X11 := X10.wr W11 gn
  replace A11 : Arv Z h11 b1 k1 (.object "com/example/intreccio/intreccio/model/IpacClass") (22 : Int32) [(.ref aENTITA_CULTURALE), (.ref aEVENTO), (.ref aPERSONA), (.ref aORGANIZZAZIONE), (.ref aFAMIGLIA), (.ref aNOME), (.ref aIDENTIFICATIVO), (.ref aPERIODO_DI_TEMPO), (.ref aCOINVOLGIMENTO), (.ref aTIPOLOGIA), .null, .null, .null, .null, .null, .null, .null, .null, .null, .null, .null, .null] .null := A11
  refine Rn.dup K (q := 70) at_69 rfl rfl ?_
  refine Rn.bipush K (q := 72) (10 : Int32) at_70 rfl rfl ?_
  refine Rn.getS K (q := 75) (List.mem_of_getElem? (i := 24) rfl) (SRUOLO.ext X11.2) at_72 rfl ?_
  refine Rn.aastore K (q := 76) (i := 10) A11 rfl (fun c a1 a2 => Sto.ofV a1 a2 O1 (Ins.self (NRUOLO.1.ext X11.2))) rfl (by decide) rfl (Nat.le_of_ble_eq_true rfl) gn at_75 rfl ?_
  intro h12 W12 A12
  have X12 := X11.wr W12 gn
  replace A12 : Arv Z h12 b1 k1 (.object "com/example/intreccio/intreccio/model/IpacClass") (22 : Int32) [(.ref aENTITA_CULTURALE), (.ref aEVENTO), (.ref aPERSONA), (.ref aORGANIZZAZIONE), (.ref aFAMIGLIA), (.ref aNOME), (.ref aIDENTIFICATIVO), (.ref aPERIODO_DI_TEMPO), (.ref aCOINVOLGIMENTO), (.ref aTIPOLOGIA), (.ref aRUOLO), .null, .null, .null, .null, .null, .null, .null, .null, .null, .null, .null] .null := A12
  refine Rn.dup K (q := 77) at_76 rfl rfl ?_
  refine Rn.bipush K (q := 79) (11 : Int32) at_77 rfl rfl ?_
  refine Rn.getS K (q := 82) (List.mem_of_getElem? (i := 26) rfl) (SMOTIVO_ATTRIBUZIONE.ext X12.2) at_79 rfl ?_
  refine Rn.aastore K (q := 83) (i := 11) A12 rfl (fun c a1 a2 => Sto.ofV a1 a2 O1 (Ins.self (NMOTIVO_ATTRIBUZIONE.1.ext X12.2))) rfl (by decide) rfl (Nat.le_of_ble_eq_true rfl) gn at_82 rfl ?_
  intro h13 W13 A13
  have X13 := X12.wr W13 gn
  replace A13 : Arv Z h13 b1 k1 (.object "com/example/intreccio/intreccio/model/IpacClass") (22 : Int32) [(.ref aENTITA_CULTURALE), (.ref aEVENTO), (.ref aPERSONA), (.ref aORGANIZZAZIONE), (.ref aFAMIGLIA), (.ref aNOME), (.ref aIDENTIFICATIVO), (.ref aPERIODO_DI_TEMPO), (.ref aCOINVOLGIMENTO), (.ref aTIPOLOGIA), (.ref aRUOLO), (.ref aMOTIVO_ATTRIBUZIONE), .null, .null, .null, .null, .null, .null, .null, .null, .null, .null] .null := A13
  refine Rn.dup K (q := 84) at_83 rfl rfl ?_
  refine Rn.bipush K (q := 86) (12 : Int32) at_84 rfl rfl ?_
  refine Rn.getS K (q := 89) (List.mem_of_getElem? (i := 28) rfl) (SLUOGO_FISICO.ext X13.2) at_86 rfl ?_
  refine Rn.aastore K (q := 90) (i := 12) A13 rfl (fun c a1 a2 => Sto.ofV a1 a2 O1 (Ins.self (NLUOGO_FISICO.1.ext X13.2))) rfl (by decide) rfl (Nat.le_of_ble_eq_true rfl) gn at_89 rfl ?_
  intro h14 W14 A14
  have X14 := X13.wr W14 gn
  replace A14 : Arv Z h14 b1 k1 (.object "com/example/intreccio/intreccio/model/IpacClass") (22 : Int32) [(.ref aENTITA_CULTURALE), (.ref aEVENTO), (.ref aPERSONA), (.ref aORGANIZZAZIONE), (.ref aFAMIGLIA), (.ref aNOME), (.ref aIDENTIFICATIVO), (.ref aPERIODO_DI_TEMPO), (.ref aCOINVOLGIMENTO), (.ref aTIPOLOGIA), (.ref aRUOLO), (.ref aMOTIVO_ATTRIBUZIONE), (.ref aLUOGO_FISICO), .null, .null, .null, .null, .null, .null, .null, .null, .null] .null := A14
  refine Rn.dup K (q := 91) at_90 rfl rfl ?_
  refine Rn.bipush K (q := 93) (13 : Int32) at_91 rfl rfl ?_
  refine Rn.getS K (q := 96) (List.mem_of_getElem? (i := 30) rfl) (SCONTENITORE_FISICO.ext X14.2) at_93 rfl ?_
  refine Rn.aastore K (q := 97) (i := 13) A14 rfl (fun c a1 a2 => Sto.ofV a1 a2 O1 (Ins.self (NCONTENITORE_FISICO.1.ext X14.2))) rfl (by decide) rfl (Nat.le_of_ble_eq_true rfl) gn at_96 rfl ?_
  intro h15 W15 A15
  have X15 := X14.wr W15 gn
  replace A15 : Arv Z h15 b1 k1 (.object "com/example/intreccio/intreccio/model/IpacClass") (22 : Int32) [(.ref aENTITA_CULTURALE), (.ref aEVENTO), (.ref aPERSONA), (.ref aORGANIZZAZIONE), (.ref aFAMIGLIA), (.ref aNOME), (.ref aIDENTIFICATIVO), (.ref aPERIODO_DI_TEMPO), (.ref aCOINVOLGIMENTO), (.ref aTIPOLOGIA), (.ref aRUOLO), (.ref aMOTIVO_ATTRIBUZIONE), (.ref aLUOGO_FISICO), (.ref aCONTENITORE_FISICO), .null, .null, .null, .null, .null, .null, .null, .null] .null := A15
  refine Rn.dup K (q := 98) at_97 rfl rfl ?_
  refine Rn.bipush K (q := 100) (14 : Int32) at_98 rfl rfl ?_
  refine Rn.getS K (q := 103) (List.mem_of_getElem? (i := 32) rfl) (SINDIRIZZO.ext X15.2) at_100 rfl ?_
  refine Rn.aastore K (q := 104) (i := 14) A15 rfl (fun c a1 a2 => Sto.ofV a1 a2 O1 (Ins.self (NINDIRIZZO.1.ext X15.2))) rfl (by decide) rfl (Nat.le_of_ble_eq_true rfl) gn at_103 rfl ?_
  intro h16 W16 A16
  have X16 := X15.wr W16 gn
  replace A16 : Arv Z h16 b1 k1 (.object "com/example/intreccio/intreccio/model/IpacClass") (22 : Int32) [(.ref aENTITA_CULTURALE), (.ref aEVENTO), (.ref aPERSONA), (.ref aORGANIZZAZIONE), (.ref aFAMIGLIA), (.ref aNOME), (.ref aIDENTIFICATIVO), (.ref aPERIODO_DI_TEMPO), (.ref aCOINVOLGIMENTO), (.ref aTIPOLOGIA), (.ref aRUOLO), (.ref aMOTIVO_ATTRIBUZIONE), (.ref aLUOGO_FISICO), (.ref aCONTENITORE_FISICO), (.ref aINDIRIZZO), .null, .null, .null, .null, .null, .null, .null] .null := A16
  refine Rn.dup K (q := 105) at_104 rfl rfl ?_
  refine Rn.bipush K (q := 107) (15 : Int32) at_105 rfl rfl ?_
  refine Rn.getS K (q := 110) (List.mem_of_getElem? (i := 34) rfl) (SCITTA.ext X16.2) at_107 rfl ?_
  refine Rn.aastore K (q := 111) (i := 15) A16 rfl (fun c a1 a2 => Sto.ofV a1 a2 O1 (Ins.self (NCITTA.1.ext X16.2))) rfl (by decide) rfl (Nat.le_of_ble_eq_true rfl) gn at_110 rfl ?_
  intro h17 W17 A17
  have X17 := X16.wr W17 gn
  replace A17 : Arv Z h17 b1 k1 (.object "com/example/intreccio/intreccio/model/IpacClass") (22 : Int32) [(.ref aENTITA_CULTURALE), (.ref aEVENTO), (.ref aPERSONA), (.ref aORGANIZZAZIONE), (.ref aFAMIGLIA), (.ref aNOME), (.ref aIDENTIFICATIVO), (.ref aPERIODO_DI_TEMPO), (.ref aCOINVOLGIMENTO), (.ref aTIPOLOGIA), (.ref aRUOLO), (.ref aMOTIVO_ATTRIBUZIONE), (.ref aLUOGO_FISICO), (.ref aCONTENITORE_FISICO), (.ref aINDIRIZZO), (.ref aCITTA), .null, .null, .null, .null, .null, .null] .null := A17
  refine Rn.dup K (q := 112) at_111 rfl rfl ?_
  refine Rn.bipush K (q := 114) (16 : Int32) at_112 rfl rfl ?_
  refine Rn.getS K (q := 117) (List.mem_of_getElem? (i := 36) rfl) (SPROVINCIA.ext X17.2) at_114 rfl ?_
  refine Rn.aastore K (q := 118) (i := 16) A17 rfl (fun c a1 a2 => Sto.ofV a1 a2 O1 (Ins.self (NPROVINCIA.1.ext X17.2))) rfl (by decide) rfl (Nat.le_of_ble_eq_true rfl) gn at_117 rfl ?_
  intro h18 W18 A18
  have X18 := X17.wr W18 gn
  replace A18 : Arv Z h18 b1 k1 (.object "com/example/intreccio/intreccio/model/IpacClass") (22 : Int32) [(.ref aENTITA_CULTURALE), (.ref aEVENTO), (.ref aPERSONA), (.ref aORGANIZZAZIONE), (.ref aFAMIGLIA), (.ref aNOME), (.ref aIDENTIFICATIVO), (.ref aPERIODO_DI_TEMPO), (.ref aCOINVOLGIMENTO), (.ref aTIPOLOGIA), (.ref aRUOLO), (.ref aMOTIVO_ATTRIBUZIONE), (.ref aLUOGO_FISICO), (.ref aCONTENITORE_FISICO), (.ref aINDIRIZZO), (.ref aCITTA), (.ref aPROVINCIA), .null, .null, .null, .null, .null] .null := A18
  refine Rn.dup K (q := 119) at_118 rfl rfl ?_
  refine Rn.bipush K (q := 121) (17 : Int32) at_119 rfl rfl ?_
  refine Rn.getS K (q := 124) (List.mem_of_getElem? (i := 38) rfl) (SREGIONE.ext X18.2) at_121 rfl ?_
  refine Rn.aastore K (q := 125) (i := 17) A18 rfl (fun c a1 a2 => Sto.ofV a1 a2 O1 (Ins.self (NREGIONE.1.ext X18.2))) rfl (by decide) rfl (Nat.le_of_ble_eq_true rfl) gn at_124 rfl ?_
  intro h19 W19 A19
  have X19 := X18.wr W19 gn
  replace A19 : Arv Z h19 b1 k1 (.object "com/example/intreccio/intreccio/model/IpacClass") (22 : Int32) [(.ref aENTITA_CULTURALE), (.ref aEVENTO), (.ref aPERSONA), (.ref aORGANIZZAZIONE), (.ref aFAMIGLIA), (.ref aNOME), (.ref aIDENTIFICATIVO), (.ref aPERIODO_DI_TEMPO), (.ref aCOINVOLGIMENTO), (.ref aTIPOLOGIA), (.ref aRUOLO), (.ref aMOTIVO_ATTRIBUZIONE), (.ref aLUOGO_FISICO), (.ref aCONTENITORE_FISICO), (.ref aINDIRIZZO), (.ref aCITTA), (.ref aPROVINCIA), (.ref aREGIONE), .null, .null, .null, .null] .null := A19
  refine Rn.dup K (q := 126) at_125 rfl rfl ?_
  refine Rn.bipush K (q := 128) (18 : Int32) at_126 rfl rfl ?_
  refine Rn.getS K (q := 131) (List.mem_of_getElem? (i := 40) rfl) (SPAESE.ext X19.2) at_128 rfl ?_
  refine Rn.aastore K (q := 132) (i := 18) A19 rfl (fun c a1 a2 => Sto.ofV a1 a2 O1 (Ins.self (NPAESE.1.ext X19.2))) rfl (by decide) rfl (Nat.le_of_ble_eq_true rfl) gn at_131 rfl ?_
  intro h20 W20 A20
  have X20 := X19.wr W20 gn
  replace A20 : Arv Z h20 b1 k1 (.object "com/example/intreccio/intreccio/model/IpacClass") (22 : Int32) [(.ref aENTITA_CULTURALE), (.ref aEVENTO), (.ref aPERSONA), (.ref aORGANIZZAZIONE), (.ref aFAMIGLIA), (.ref aNOME), (.ref aIDENTIFICATIVO), (.ref aPERIODO_DI_TEMPO), (.ref aCOINVOLGIMENTO), (.ref aTIPOLOGIA), (.ref aRUOLO), (.ref aMOTIVO_ATTRIBUZIONE), (.ref aLUOGO_FISICO), (.ref aCONTENITORE_FISICO), (.ref aINDIRIZZO), (.ref aCITTA), (.ref aPROVINCIA), (.ref aREGIONE), (.ref aPAESE), .null, .null, .null] .null := A20
  refine Rn.dup K (q := 133) at_132 rfl rfl ?_
  refine Rn.bipush K (q := 135) (19 : Int32) at_133 rfl rfl ?_
  refine Rn.getS K (q := 138) (List.mem_of_getElem? (i := 42) rfl) (SGEOMETRIA.ext X20.2) at_135 rfl ?_
  refine Rn.aastore K (q := 139) (i := 19) A20 rfl (fun c a1 a2 => Sto.ofV a1 a2 O1 (Ins.self (NGEOMETRIA.1.ext X20.2))) rfl (by decide) rfl (Nat.le_of_ble_eq_true rfl) gn at_138 rfl ?_
  intro h21 W21 A21
  have X21 := X20.wr W21 gn
  replace A21 : Arv Z h21 b1 k1 (.object "com/example/intreccio/intreccio/model/IpacClass") (22 : Int32) [(.ref aENTITA_CULTURALE), (.ref aEVENTO), (.ref aPERSONA), (.ref aORGANIZZAZIONE), (.ref aFAMIGLIA), (.ref aNOME), (.ref aIDENTIFICATIVO), (.ref aPERIODO_DI_TEMPO), (.ref aCOINVOLGIMENTO), (.ref aTIPOLOGIA), (.ref aRUOLO), (.ref aMOTIVO_ATTRIBUZIONE), (.ref aLUOGO_FISICO), (.ref aCONTENITORE_FISICO), (.ref aINDIRIZZO), (.ref aCITTA), (.ref aPROVINCIA), (.ref aREGIONE), (.ref aPAESE), (.ref aGEOMETRIA), .null, .null] .null := A21
  refine Rn.dup K (q := 140) at_139 rfl rfl ?_
  refine Rn.bipush K (q := 142) (20 : Int32) at_140 rfl rfl ?_
  refine Rn.getS K (q := 145) (List.mem_of_getElem? (i := 44) rfl) (SSOGGETTO.ext X21.2) at_142 rfl ?_
  refine Rn.aastore K (q := 146) (i := 20) A21 rfl (fun c a1 a2 => Sto.ofV a1 a2 O1 (Ins.self (NSOGGETTO.1.ext X21.2))) rfl (by decide) rfl (Nat.le_of_ble_eq_true rfl) gn at_145 rfl ?_
  intro h22 W22 A22
  have X22 := X21.wr W22 gn
  replace A22 : Arv Z h22 b1 k1 (.object "com/example/intreccio/intreccio/model/IpacClass") (22 : Int32) [(.ref aENTITA_CULTURALE), (.ref aEVENTO), (.ref aPERSONA), (.ref aORGANIZZAZIONE), (.ref aFAMIGLIA), (.ref aNOME), (.ref aIDENTIFICATIVO), (.ref aPERIODO_DI_TEMPO), (.ref aCOINVOLGIMENTO), (.ref aTIPOLOGIA), (.ref aRUOLO), (.ref aMOTIVO_ATTRIBUZIONE), (.ref aLUOGO_FISICO), (.ref aCONTENITORE_FISICO), (.ref aINDIRIZZO), (.ref aCITTA), (.ref aPROVINCIA), (.ref aREGIONE), (.ref aPAESE), (.ref aGEOMETRIA), (.ref aSOGGETTO), .null] .null := A22
  refine Rn.dup K (q := 147) at_146 rfl rfl ?_
  refine Rn.bipush K (q := 149) (21 : Int32) at_147 rfl rfl ?_
  refine Rn.getS K (q := 152) (List.mem_of_getElem? (i := 46) rfl) (SCONCETTO.ext X22.2) at_149 rfl ?_
  refine Rn.aastore K (q := 153) (i := 21) A22 rfl (fun c a1 a2 => Sto.ofV a1 a2 O1 (Ins.self (NCONCETTO.1.ext X22.2))) rfl (by decide) rfl (Nat.le_of_ble_eq_true rfl) gn at_152 rfl ?_
  intro h23 W23 A23
  have X23 := X22.wr W23 gn
  replace A23 : Arv Z h23 b1 k1 (.object "com/example/intreccio/intreccio/model/IpacClass") (22 : Int32) [(.ref aENTITA_CULTURALE), (.ref aEVENTO), (.ref aPERSONA), (.ref aORGANIZZAZIONE), (.ref aFAMIGLIA), (.ref aNOME), (.ref aIDENTIFICATIVO), (.ref aPERIODO_DI_TEMPO), (.ref aCOINVOLGIMENTO), (.ref aTIPOLOGIA), (.ref aRUOLO), (.ref aMOTIVO_ATTRIBUZIONE), (.ref aLUOGO_FISICO), (.ref aCONTENITORE_FISICO), (.ref aINDIRIZZO), (.ref aCITTA), (.ref aPROVINCIA), (.ref aREGIONE), (.ref aPAESE), (.ref aGEOMETRIA), (.ref aSOGGETTO), (.ref aCONCETTO)] .null := A23
  refine Rn.astoreN K (q := 154) (Ls' := #[.val (.int p1), .val (.ref b1), .unset, .unset, .unset, .unset]) at_153 rfl rfl rfl ?_
  refine Rn.iloadN K (q := 155) at_154 rfl rfl ?_
  refine Rn.ldcI K (q := 157) (2147483647 : Int32) (List.mem_of_getElem? (i := 48) rfl) at_155 rfl ?_
  refine Rn.iand K (q := 158) at_157 rfl ?_
  refine Rn.bipush K (q := 160) (22 : Int32) at_158 rfl rfl ?_
  refine Rn.irem K (q := 161) at_160 (by decide) rfl ?_
  have hb := own_mod p1 (n := (22 : Int32)) (k := 22) (by decide) (by decide)
  generalize ((p1 &&& (2147483647 : Int32)) % (22 : Int32)) = k at hb ⊢
  have hk : k.toInt = 0 ∨ k.toInt = 1 ∨ k.toInt = 2 ∨ k.toInt = 3 ∨ k.toInt = 4 ∨ k.toInt = 5 ∨ k.toInt = 6 ∨ k.toInt = 7 ∨ k.toInt = 8 ∨ k.toInt = 9 ∨ k.toInt = 10 ∨ k.toInt = 11 ∨ k.toInt = 12 ∨ k.toInt = 13 ∨ k.toInt = 14 ∨ k.toInt = 15 ∨ k.toInt = 16 ∨ k.toInt = 17 ∨ k.toInt = 18 ∨ k.toInt = 19 ∨ k.toInt = 20 ∨ k.toInt = 21 := by omega
  rcases hk with hk | hk | hk | hk | hk | hk | hk | hk | hk | hk | hk | hk | hk | hk | hk | hk | hk | hk | hk | hk | hk | hk
  · obtain rfl := own_lit (v := (0 : Int32)) hk (by decide)
    refine Rn.istoreN K (q := 162) (Ls' := #[.val (.int p1), .val (.ref b1), .val (.int (0 : Int32)), .unset, .unset, .unset]) at_161 rfl rfl ?_
    refine Rn.aloadN K (q := 163) at_162 rfl rfl rfl ?_
    refine Rn.iloadN K (q := 164) at_163 rfl rfl ?_
    refine Rn.aaload K (q := 165) (v := .ref aENTITA_CULTURALE) A23 rfl (by decide) rfl at_164 rfl ?_
    refine Rn.astoreN K (q := 166) (Ls' := #[.val (.int p1), .val (.ref b1), .val (.int (0 : Int32)), .val (.ref aENTITA_CULTURALE), .unset, .unset]) at_165 rfl rfl rfl ?_
    refine Rn.iloadN K (q := 167) at_166 rfl rfl ?_
    refine Rn.bipush K (q := 169) (9 : Int32) at_167 rfl rfl ?_
    refine Rn.icN K (q := 172) at_169 (XT.ii_eq_f (by decide)) rfl ?_
    refine Rn.iloadN K (q := 173) at_172 rfl rfl ?_
    refine Rn.bipush K (q := 175) (10 : Int32) at_173 rfl rfl ?_
    refine Rn.icN K (q := 178) at_175 (XT.ii_eq_f (by decide)) rfl ?_
    refine Rn.iloadN K (q := 179) at_178 rfl rfl ?_
    refine Rn.bipush K (q := 181) (11 : Int32) at_179 rfl rfl ?_
    refine Rn.icN K (q := 184) at_181 (XT.ii_eq_f (by decide)) rfl ?_
    refine Rn.iloadN K (q := 185) at_184 rfl rfl ?_
    refine Rn.bipush K (q := 187) (21 : Int32) at_185 rfl rfl ?_
    refine Rn.icY K (q := 194) at_187 (XT.ii_ne_t (by decide)) (by decide) (by decide) ?_
    refine Rn.iconst K (q := 195) (0 : Int32) at_194 rfl rfl ?_
    refine Rn.istore K (q := 197) (Ls' := #[.val (.int p1), .val (.ref b1), .val (.int (0 : Int32)), .val (.ref aENTITA_CULTURALE), .val (.int (0 : Int32)), .unset]) at_195 rfl rfl ?_
    refine Rn.aloadN K (q := 198) at_197 rfl rfl rfl ?_
    refine Rn.virt K (q := 201) (W := 0) (y := (⟨"com/example/intreccio/intreccio/model/IpacClass", "isConcept", "()Z"⟩ : MethodName)) (z := (⟨"com/example/intreccio/intreccio/model/IpacClass", "isConcept", "()Z"⟩ : MethodName)) (b := aENTITA_CULTURALE) (argsL := []) (rest := []) (List.mem_of_getElem? (i := 49) rfl) (List.mem_of_getElem? (i := 50) rfl) (nfs K (List.mem_of_getElem? (i := 52) rfl)) (List.mem_of_getElem? (i := 52) rfl) (List.mem_of_getElem? (i := 51) rfl) (List.mem_of_getElem? (i := 53) rfl) (List.mem_of_getElem? (i := 3) rfl) (by decide) (m_conN l Z a0 hw n0 h23 aENTITA_CULTURALE (0 : Int32) (NENTITA_CULTURALE.2.ext X23.2) (NENTITA_CULTURALE.1.ext X23.2) (by decide)) (NENTITA_CULTURALE.1.ext X23.2) (by decide) (by decide) rfl (lenOf pd_1 rfl) rfl (Nat.le_of_ble_eq_true rfl) at_198 rfl (by decide) (by decide) ?_
    rintro _ _ ⟨rfl, rfl⟩
    show Rn w l _ n0 _ 201 #[.val (.int p1), .val (.ref b1), .val (.int (0 : Int32)), .val (.ref aENTITA_CULTURALE), .val (.int (0 : Int32)), .unset] [(.int (0 : Int32))] h23 1 22
    refine Rn.istore K (q := 203) (Ls' := #[.val (.int p1), .val (.ref b1), .val (.int (0 : Int32)), .val (.ref aENTITA_CULTURALE), .val (.int (0 : Int32)), .val (.int (0 : Int32))]) at_201 rfl rfl ?_
    refine Rn.iload K (q := 205) at_203 rfl rfl ?_
    refine Rn.iload K (q := 207) at_205 rfl rfl ?_
    refine Rn.icY K (q := 212) at_207 (XT.ii_eq_t rfl) (by decide) (by decide) ?_
    refine Rn.iload K (q := 214) at_212 rfl rfl ?_
    refine Rn.ifY K (q := 226) at_214 (XT.i0_eq_t rfl) (by decide) (by decide) ?_
    refine Rn.iconst K (q := 227) (1 : Int32) at_226 rfl rfl ?_
    exact Rn.retN K .boolean rfl (by simp) at_227 (by decide) (by decide) rfl
  · obtain rfl := own_lit (v := (1 : Int32)) hk (by decide)
    refine Rn.istoreN K (q := 162) (Ls' := #[.val (.int p1), .val (.ref b1), .val (.int (1 : Int32)), .unset, .unset, .unset]) at_161 rfl rfl ?_
    refine Rn.aloadN K (q := 163) at_162 rfl rfl rfl ?_
    refine Rn.iloadN K (q := 164) at_163 rfl rfl ?_
    refine Rn.aaload K (q := 165) (v := .ref aEVENTO) A23 rfl (by decide) rfl at_164 rfl ?_
    refine Rn.astoreN K (q := 166) (Ls' := #[.val (.int p1), .val (.ref b1), .val (.int (1 : Int32)), .val (.ref aEVENTO), .unset, .unset]) at_165 rfl rfl rfl ?_
    refine Rn.iloadN K (q := 167) at_166 rfl rfl ?_
    refine Rn.bipush K (q := 169) (9 : Int32) at_167 rfl rfl ?_
    refine Rn.icN K (q := 172) at_169 (XT.ii_eq_f (by decide)) rfl ?_
    refine Rn.iloadN K (q := 173) at_172 rfl rfl ?_
    refine Rn.bipush K (q := 175) (10 : Int32) at_173 rfl rfl ?_
    refine Rn.icN K (q := 178) at_175 (XT.ii_eq_f (by decide)) rfl ?_
    refine Rn.iloadN K (q := 179) at_178 rfl rfl ?_
    refine Rn.bipush K (q := 181) (11 : Int32) at_179 rfl rfl ?_
    refine Rn.icN K (q := 184) at_181 (XT.ii_eq_f (by decide)) rfl ?_
    refine Rn.iloadN K (q := 185) at_184 rfl rfl ?_
    refine Rn.bipush K (q := 187) (21 : Int32) at_185 rfl rfl ?_
    refine Rn.icY K (q := 194) at_187 (XT.ii_ne_t (by decide)) (by decide) (by decide) ?_
    refine Rn.iconst K (q := 195) (0 : Int32) at_194 rfl rfl ?_
    refine Rn.istore K (q := 197) (Ls' := #[.val (.int p1), .val (.ref b1), .val (.int (1 : Int32)), .val (.ref aEVENTO), .val (.int (0 : Int32)), .unset]) at_195 rfl rfl ?_
    refine Rn.aloadN K (q := 198) at_197 rfl rfl rfl ?_
    refine Rn.virt K (q := 201) (W := 0) (y := (⟨"com/example/intreccio/intreccio/model/IpacClass", "isConcept", "()Z"⟩ : MethodName)) (z := (⟨"com/example/intreccio/intreccio/model/IpacClass", "isConcept", "()Z"⟩ : MethodName)) (b := aEVENTO) (argsL := []) (rest := []) (List.mem_of_getElem? (i := 49) rfl) (List.mem_of_getElem? (i := 50) rfl) (nfs K (List.mem_of_getElem? (i := 52) rfl)) (List.mem_of_getElem? (i := 52) rfl) (List.mem_of_getElem? (i := 51) rfl) (List.mem_of_getElem? (i := 53) rfl) (List.mem_of_getElem? (i := 3) rfl) (by decide) (m_conN l Z a0 hw n0 h23 aEVENTO (1 : Int32) (NEVENTO.2.ext X23.2) (NEVENTO.1.ext X23.2) (by decide)) (NEVENTO.1.ext X23.2) (by decide) (by decide) rfl (lenOf pd_1 rfl) rfl (Nat.le_of_ble_eq_true rfl) at_198 rfl (by decide) (by decide) ?_
    rintro _ _ ⟨rfl, rfl⟩
    show Rn w l _ n0 _ 201 #[.val (.int p1), .val (.ref b1), .val (.int (1 : Int32)), .val (.ref aEVENTO), .val (.int (0 : Int32)), .unset] [(.int (0 : Int32))] h23 1 22
    refine Rn.istore K (q := 203) (Ls' := #[.val (.int p1), .val (.ref b1), .val (.int (1 : Int32)), .val (.ref aEVENTO), .val (.int (0 : Int32)), .val (.int (0 : Int32))]) at_201 rfl rfl ?_
    refine Rn.iload K (q := 205) at_203 rfl rfl ?_
    refine Rn.iload K (q := 207) at_205 rfl rfl ?_
    refine Rn.icY K (q := 212) at_207 (XT.ii_eq_t rfl) (by decide) (by decide) ?_
    refine Rn.iload K (q := 214) at_212 rfl rfl ?_
    refine Rn.ifY K (q := 226) at_214 (XT.i0_eq_t rfl) (by decide) (by decide) ?_
    refine Rn.iconst K (q := 227) (1 : Int32) at_226 rfl rfl ?_
    exact Rn.retN K .boolean rfl (by simp) at_227 (by decide) (by decide) rfl
  · obtain rfl := own_lit (v := (2 : Int32)) hk (by decide)
    refine Rn.istoreN K (q := 162) (Ls' := #[.val (.int p1), .val (.ref b1), .val (.int (2 : Int32)), .unset, .unset, .unset]) at_161 rfl rfl ?_
    refine Rn.aloadN K (q := 163) at_162 rfl rfl rfl ?_
    refine Rn.iloadN K (q := 164) at_163 rfl rfl ?_
    refine Rn.aaload K (q := 165) (v := .ref aPERSONA) A23 rfl (by decide) rfl at_164 rfl ?_
    refine Rn.astoreN K (q := 166) (Ls' := #[.val (.int p1), .val (.ref b1), .val (.int (2 : Int32)), .val (.ref aPERSONA), .unset, .unset]) at_165 rfl rfl rfl ?_
    refine Rn.iloadN K (q := 167) at_166 rfl rfl ?_
    refine Rn.bipush K (q := 169) (9 : Int32) at_167 rfl rfl ?_
    refine Rn.icN K (q := 172) at_169 (XT.ii_eq_f (by decide)) rfl ?_
    refine Rn.iloadN K (q := 173) at_172 rfl rfl ?_
    refine Rn.bipush K (q := 175) (10 : Int32) at_173 rfl rfl ?_
    refine Rn.icN K (q := 178) at_175 (XT.ii_eq_f (by decide)) rfl ?_
    refine Rn.iloadN K (q := 179) at_178 rfl rfl ?_
    refine Rn.bipush K (q := 181) (11 : Int32) at_179 rfl rfl ?_
    refine Rn.icN K (q := 184) at_181 (XT.ii_eq_f (by decide)) rfl ?_
    refine Rn.iloadN K (q := 185) at_184 rfl rfl ?_
    refine Rn.bipush K (q := 187) (21 : Int32) at_185 rfl rfl ?_
    refine Rn.icY K (q := 194) at_187 (XT.ii_ne_t (by decide)) (by decide) (by decide) ?_
    refine Rn.iconst K (q := 195) (0 : Int32) at_194 rfl rfl ?_
    refine Rn.istore K (q := 197) (Ls' := #[.val (.int p1), .val (.ref b1), .val (.int (2 : Int32)), .val (.ref aPERSONA), .val (.int (0 : Int32)), .unset]) at_195 rfl rfl ?_
    refine Rn.aloadN K (q := 198) at_197 rfl rfl rfl ?_
    refine Rn.virt K (q := 201) (W := 0) (y := (⟨"com/example/intreccio/intreccio/model/IpacClass", "isConcept", "()Z"⟩ : MethodName)) (z := (⟨"com/example/intreccio/intreccio/model/IpacClass", "isConcept", "()Z"⟩ : MethodName)) (b := aPERSONA) (argsL := []) (rest := []) (List.mem_of_getElem? (i := 49) rfl) (List.mem_of_getElem? (i := 50) rfl) (nfs K (List.mem_of_getElem? (i := 52) rfl)) (List.mem_of_getElem? (i := 52) rfl) (List.mem_of_getElem? (i := 51) rfl) (List.mem_of_getElem? (i := 53) rfl) (List.mem_of_getElem? (i := 3) rfl) (by decide) (m_conN l Z a0 hw n0 h23 aPERSONA (2 : Int32) (NPERSONA.2.ext X23.2) (NPERSONA.1.ext X23.2) (by decide)) (NPERSONA.1.ext X23.2) (by decide) (by decide) rfl (lenOf pd_1 rfl) rfl (Nat.le_of_ble_eq_true rfl) at_198 rfl (by decide) (by decide) ?_
    rintro _ _ ⟨rfl, rfl⟩
    show Rn w l _ n0 _ 201 #[.val (.int p1), .val (.ref b1), .val (.int (2 : Int32)), .val (.ref aPERSONA), .val (.int (0 : Int32)), .unset] [(.int (0 : Int32))] h23 1 22
    refine Rn.istore K (q := 203) (Ls' := #[.val (.int p1), .val (.ref b1), .val (.int (2 : Int32)), .val (.ref aPERSONA), .val (.int (0 : Int32)), .val (.int (0 : Int32))]) at_201 rfl rfl ?_
    refine Rn.iload K (q := 205) at_203 rfl rfl ?_
    refine Rn.iload K (q := 207) at_205 rfl rfl ?_
    refine Rn.icY K (q := 212) at_207 (XT.ii_eq_t rfl) (by decide) (by decide) ?_
    refine Rn.iload K (q := 214) at_212 rfl rfl ?_
    refine Rn.ifY K (q := 226) at_214 (XT.i0_eq_t rfl) (by decide) (by decide) ?_
    refine Rn.iconst K (q := 227) (1 : Int32) at_226 rfl rfl ?_
    exact Rn.retN K .boolean rfl (by simp) at_227 (by decide) (by decide) rfl
  · obtain rfl := own_lit (v := (3 : Int32)) hk (by decide)
    refine Rn.istoreN K (q := 162) (Ls' := #[.val (.int p1), .val (.ref b1), .val (.int (3 : Int32)), .unset, .unset, .unset]) at_161 rfl rfl ?_
    refine Rn.aloadN K (q := 163) at_162 rfl rfl rfl ?_
    refine Rn.iloadN K (q := 164) at_163 rfl rfl ?_
    refine Rn.aaload K (q := 165) (v := .ref aORGANIZZAZIONE) A23 rfl (by decide) rfl at_164 rfl ?_
    refine Rn.astoreN K (q := 166) (Ls' := #[.val (.int p1), .val (.ref b1), .val (.int (3 : Int32)), .val (.ref aORGANIZZAZIONE), .unset, .unset]) at_165 rfl rfl rfl ?_
    refine Rn.iloadN K (q := 167) at_166 rfl rfl ?_
    refine Rn.bipush K (q := 169) (9 : Int32) at_167 rfl rfl ?_
    refine Rn.icN K (q := 172) at_169 (XT.ii_eq_f (by decide)) rfl ?_
    refine Rn.iloadN K (q := 173) at_172 rfl rfl ?_
    refine Rn.bipush K (q := 175) (10 : Int32) at_173 rfl rfl ?_
    refine Rn.icN K (q := 178) at_175 (XT.ii_eq_f (by decide)) rfl ?_
    refine Rn.iloadN K (q := 179) at_178 rfl rfl ?_
    refine Rn.bipush K (q := 181) (11 : Int32) at_179 rfl rfl ?_
    refine Rn.icN K (q := 184) at_181 (XT.ii_eq_f (by decide)) rfl ?_
    refine Rn.iloadN K (q := 185) at_184 rfl rfl ?_
    refine Rn.bipush K (q := 187) (21 : Int32) at_185 rfl rfl ?_
    refine Rn.icY K (q := 194) at_187 (XT.ii_ne_t (by decide)) (by decide) (by decide) ?_
    refine Rn.iconst K (q := 195) (0 : Int32) at_194 rfl rfl ?_
    refine Rn.istore K (q := 197) (Ls' := #[.val (.int p1), .val (.ref b1), .val (.int (3 : Int32)), .val (.ref aORGANIZZAZIONE), .val (.int (0 : Int32)), .unset]) at_195 rfl rfl ?_
    refine Rn.aloadN K (q := 198) at_197 rfl rfl rfl ?_
    refine Rn.virt K (q := 201) (W := 0) (y := (⟨"com/example/intreccio/intreccio/model/IpacClass", "isConcept", "()Z"⟩ : MethodName)) (z := (⟨"com/example/intreccio/intreccio/model/IpacClass", "isConcept", "()Z"⟩ : MethodName)) (b := aORGANIZZAZIONE) (argsL := []) (rest := []) (List.mem_of_getElem? (i := 49) rfl) (List.mem_of_getElem? (i := 50) rfl) (nfs K (List.mem_of_getElem? (i := 52) rfl)) (List.mem_of_getElem? (i := 52) rfl) (List.mem_of_getElem? (i := 51) rfl) (List.mem_of_getElem? (i := 53) rfl) (List.mem_of_getElem? (i := 3) rfl) (by decide) (m_conN l Z a0 hw n0 h23 aORGANIZZAZIONE (3 : Int32) (NORGANIZZAZIONE.2.ext X23.2) (NORGANIZZAZIONE.1.ext X23.2) (by decide)) (NORGANIZZAZIONE.1.ext X23.2) (by decide) (by decide) rfl (lenOf pd_1 rfl) rfl (Nat.le_of_ble_eq_true rfl) at_198 rfl (by decide) (by decide) ?_
    rintro _ _ ⟨rfl, rfl⟩
    show Rn w l _ n0 _ 201 #[.val (.int p1), .val (.ref b1), .val (.int (3 : Int32)), .val (.ref aORGANIZZAZIONE), .val (.int (0 : Int32)), .unset] [(.int (0 : Int32))] h23 1 22
    refine Rn.istore K (q := 203) (Ls' := #[.val (.int p1), .val (.ref b1), .val (.int (3 : Int32)), .val (.ref aORGANIZZAZIONE), .val (.int (0 : Int32)), .val (.int (0 : Int32))]) at_201 rfl rfl ?_
    refine Rn.iload K (q := 205) at_203 rfl rfl ?_
    refine Rn.iload K (q := 207) at_205 rfl rfl ?_
    refine Rn.icY K (q := 212) at_207 (XT.ii_eq_t rfl) (by decide) (by decide) ?_
    refine Rn.iload K (q := 214) at_212 rfl rfl ?_
    refine Rn.ifY K (q := 226) at_214 (XT.i0_eq_t rfl) (by decide) (by decide) ?_
    refine Rn.iconst K (q := 227) (1 : Int32) at_226 rfl rfl ?_
    exact Rn.retN K .boolean rfl (by simp) at_227 (by decide) (by decide) rfl
  · obtain rfl := own_lit (v := (4 : Int32)) hk (by decide)
    refine Rn.istoreN K (q := 162) (Ls' := #[.val (.int p1), .val (.ref b1), .val (.int (4 : Int32)), .unset, .unset, .unset]) at_161 rfl rfl ?_
    refine Rn.aloadN K (q := 163) at_162 rfl rfl rfl ?_
    refine Rn.iloadN K (q := 164) at_163 rfl rfl ?_
    refine Rn.aaload K (q := 165) (v := .ref aFAMIGLIA) A23 rfl (by decide) rfl at_164 rfl ?_
    refine Rn.astoreN K (q := 166) (Ls' := #[.val (.int p1), .val (.ref b1), .val (.int (4 : Int32)), .val (.ref aFAMIGLIA), .unset, .unset]) at_165 rfl rfl rfl ?_
    refine Rn.iloadN K (q := 167) at_166 rfl rfl ?_
    refine Rn.bipush K (q := 169) (9 : Int32) at_167 rfl rfl ?_
    refine Rn.icN K (q := 172) at_169 (XT.ii_eq_f (by decide)) rfl ?_
    refine Rn.iloadN K (q := 173) at_172 rfl rfl ?_
    refine Rn.bipush K (q := 175) (10 : Int32) at_173 rfl rfl ?_
    refine Rn.icN K (q := 178) at_175 (XT.ii_eq_f (by decide)) rfl ?_
    refine Rn.iloadN K (q := 179) at_178 rfl rfl ?_
    refine Rn.bipush K (q := 181) (11 : Int32) at_179 rfl rfl ?_
    refine Rn.icN K (q := 184) at_181 (XT.ii_eq_f (by decide)) rfl ?_
    refine Rn.iloadN K (q := 185) at_184 rfl rfl ?_
    refine Rn.bipush K (q := 187) (21 : Int32) at_185 rfl rfl ?_
    refine Rn.icY K (q := 194) at_187 (XT.ii_ne_t (by decide)) (by decide) (by decide) ?_
    refine Rn.iconst K (q := 195) (0 : Int32) at_194 rfl rfl ?_
    refine Rn.istore K (q := 197) (Ls' := #[.val (.int p1), .val (.ref b1), .val (.int (4 : Int32)), .val (.ref aFAMIGLIA), .val (.int (0 : Int32)), .unset]) at_195 rfl rfl ?_
    refine Rn.aloadN K (q := 198) at_197 rfl rfl rfl ?_
    refine Rn.virt K (q := 201) (W := 0) (y := (⟨"com/example/intreccio/intreccio/model/IpacClass", "isConcept", "()Z"⟩ : MethodName)) (z := (⟨"com/example/intreccio/intreccio/model/IpacClass", "isConcept", "()Z"⟩ : MethodName)) (b := aFAMIGLIA) (argsL := []) (rest := []) (List.mem_of_getElem? (i := 49) rfl) (List.mem_of_getElem? (i := 50) rfl) (nfs K (List.mem_of_getElem? (i := 52) rfl)) (List.mem_of_getElem? (i := 52) rfl) (List.mem_of_getElem? (i := 51) rfl) (List.mem_of_getElem? (i := 53) rfl) (List.mem_of_getElem? (i := 3) rfl) (by decide) (m_conN l Z a0 hw n0 h23 aFAMIGLIA (4 : Int32) (NFAMIGLIA.2.ext X23.2) (NFAMIGLIA.1.ext X23.2) (by decide)) (NFAMIGLIA.1.ext X23.2) (by decide) (by decide) rfl (lenOf pd_1 rfl) rfl (Nat.le_of_ble_eq_true rfl) at_198 rfl (by decide) (by decide) ?_
    rintro _ _ ⟨rfl, rfl⟩
    show Rn w l _ n0 _ 201 #[.val (.int p1), .val (.ref b1), .val (.int (4 : Int32)), .val (.ref aFAMIGLIA), .val (.int (0 : Int32)), .unset] [(.int (0 : Int32))] h23 1 22
    refine Rn.istore K (q := 203) (Ls' := #[.val (.int p1), .val (.ref b1), .val (.int (4 : Int32)), .val (.ref aFAMIGLIA), .val (.int (0 : Int32)), .val (.int (0 : Int32))]) at_201 rfl rfl ?_
    refine Rn.iload K (q := 205) at_203 rfl rfl ?_
    refine Rn.iload K (q := 207) at_205 rfl rfl ?_
    refine Rn.icY K (q := 212) at_207 (XT.ii_eq_t rfl) (by decide) (by decide) ?_
    refine Rn.iload K (q := 214) at_212 rfl rfl ?_
    refine Rn.ifY K (q := 226) at_214 (XT.i0_eq_t rfl) (by decide) (by decide) ?_
    refine Rn.iconst K (q := 227) (1 : Int32) at_226 rfl rfl ?_
    exact Rn.retN K .boolean rfl (by simp) at_227 (by decide) (by decide) rfl
  · obtain rfl := own_lit (v := (5 : Int32)) hk (by decide)
    refine Rn.istoreN K (q := 162) (Ls' := #[.val (.int p1), .val (.ref b1), .val (.int (5 : Int32)), .unset, .unset, .unset]) at_161 rfl rfl ?_
    refine Rn.aloadN K (q := 163) at_162 rfl rfl rfl ?_
    refine Rn.iloadN K (q := 164) at_163 rfl rfl ?_
    refine Rn.aaload K (q := 165) (v := .ref aNOME) A23 rfl (by decide) rfl at_164 rfl ?_
    refine Rn.astoreN K (q := 166) (Ls' := #[.val (.int p1), .val (.ref b1), .val (.int (5 : Int32)), .val (.ref aNOME), .unset, .unset]) at_165 rfl rfl rfl ?_
    refine Rn.iloadN K (q := 167) at_166 rfl rfl ?_
    refine Rn.bipush K (q := 169) (9 : Int32) at_167 rfl rfl ?_
    refine Rn.icN K (q := 172) at_169 (XT.ii_eq_f (by decide)) rfl ?_
    refine Rn.iloadN K (q := 173) at_172 rfl rfl ?_
    refine Rn.bipush K (q := 175) (10 : Int32) at_173 rfl rfl ?_
    refine Rn.icN K (q := 178) at_175 (XT.ii_eq_f (by decide)) rfl ?_
    refine Rn.iloadN K (q := 179) at_178 rfl rfl ?_
    refine Rn.bipush K (q := 181) (11 : Int32) at_179 rfl rfl ?_
    refine Rn.icN K (q := 184) at_181 (XT.ii_eq_f (by decide)) rfl ?_
    refine Rn.iloadN K (q := 185) at_184 rfl rfl ?_
    refine Rn.bipush K (q := 187) (21 : Int32) at_185 rfl rfl ?_
    refine Rn.icY K (q := 194) at_187 (XT.ii_ne_t (by decide)) (by decide) (by decide) ?_
    refine Rn.iconst K (q := 195) (0 : Int32) at_194 rfl rfl ?_
    refine Rn.istore K (q := 197) (Ls' := #[.val (.int p1), .val (.ref b1), .val (.int (5 : Int32)), .val (.ref aNOME), .val (.int (0 : Int32)), .unset]) at_195 rfl rfl ?_
    refine Rn.aloadN K (q := 198) at_197 rfl rfl rfl ?_
    refine Rn.virt K (q := 201) (W := 0) (y := (⟨"com/example/intreccio/intreccio/model/IpacClass", "isConcept", "()Z"⟩ : MethodName)) (z := (⟨"com/example/intreccio/intreccio/model/IpacClass", "isConcept", "()Z"⟩ : MethodName)) (b := aNOME) (argsL := []) (rest := []) (List.mem_of_getElem? (i := 49) rfl) (List.mem_of_getElem? (i := 50) rfl) (nfs K (List.mem_of_getElem? (i := 52) rfl)) (List.mem_of_getElem? (i := 52) rfl) (List.mem_of_getElem? (i := 51) rfl) (List.mem_of_getElem? (i := 53) rfl) (List.mem_of_getElem? (i := 3) rfl) (by decide) (m_conN l Z a0 hw n0 h23 aNOME (5 : Int32) (NNOME.2.ext X23.2) (NNOME.1.ext X23.2) (by decide)) (NNOME.1.ext X23.2) (by decide) (by decide) rfl (lenOf pd_1 rfl) rfl (Nat.le_of_ble_eq_true rfl) at_198 rfl (by decide) (by decide) ?_
    rintro _ _ ⟨rfl, rfl⟩
    show Rn w l _ n0 _ 201 #[.val (.int p1), .val (.ref b1), .val (.int (5 : Int32)), .val (.ref aNOME), .val (.int (0 : Int32)), .unset] [(.int (0 : Int32))] h23 1 22
    refine Rn.istore K (q := 203) (Ls' := #[.val (.int p1), .val (.ref b1), .val (.int (5 : Int32)), .val (.ref aNOME), .val (.int (0 : Int32)), .val (.int (0 : Int32))]) at_201 rfl rfl ?_
    refine Rn.iload K (q := 205) at_203 rfl rfl ?_
    refine Rn.iload K (q := 207) at_205 rfl rfl ?_
    refine Rn.icY K (q := 212) at_207 (XT.ii_eq_t rfl) (by decide) (by decide) ?_
    refine Rn.iload K (q := 214) at_212 rfl rfl ?_
    refine Rn.ifY K (q := 226) at_214 (XT.i0_eq_t rfl) (by decide) (by decide) ?_
    refine Rn.iconst K (q := 227) (1 : Int32) at_226 rfl rfl ?_
    exact Rn.retN K .boolean rfl (by simp) at_227 (by decide) (by decide) rfl
  · obtain rfl := own_lit (v := (6 : Int32)) hk (by decide)
    refine Rn.istoreN K (q := 162) (Ls' := #[.val (.int p1), .val (.ref b1), .val (.int (6 : Int32)), .unset, .unset, .unset]) at_161 rfl rfl ?_
    refine Rn.aloadN K (q := 163) at_162 rfl rfl rfl ?_
    refine Rn.iloadN K (q := 164) at_163 rfl rfl ?_
    refine Rn.aaload K (q := 165) (v := .ref aIDENTIFICATIVO) A23 rfl (by decide) rfl at_164 rfl ?_
    refine Rn.astoreN K (q := 166) (Ls' := #[.val (.int p1), .val (.ref b1), .val (.int (6 : Int32)), .val (.ref aIDENTIFICATIVO), .unset, .unset]) at_165 rfl rfl rfl ?_
    refine Rn.iloadN K (q := 167) at_166 rfl rfl ?_
    refine Rn.bipush K (q := 169) (9 : Int32) at_167 rfl rfl ?_
    refine Rn.icN K (q := 172) at_169 (XT.ii_eq_f (by decide)) rfl ?_
    refine Rn.iloadN K (q := 173) at_172 rfl rfl ?_
    refine Rn.bipush K (q := 175) (10 : Int32) at_173 rfl rfl ?_
    refine Rn.icN K (q := 178) at_175 (XT.ii_eq_f (by decide)) rfl ?_
    refine Rn.iloadN K (q := 179) at_178 rfl rfl ?_
    refine Rn.bipush K (q := 181) (11 : Int32) at_179 rfl rfl ?_
    refine Rn.icN K (q := 184) at_181 (XT.ii_eq_f (by decide)) rfl ?_
    refine Rn.iloadN K (q := 185) at_184 rfl rfl ?_
    refine Rn.bipush K (q := 187) (21 : Int32) at_185 rfl rfl ?_
    refine Rn.icY K (q := 194) at_187 (XT.ii_ne_t (by decide)) (by decide) (by decide) ?_
    refine Rn.iconst K (q := 195) (0 : Int32) at_194 rfl rfl ?_
    refine Rn.istore K (q := 197) (Ls' := #[.val (.int p1), .val (.ref b1), .val (.int (6 : Int32)), .val (.ref aIDENTIFICATIVO), .val (.int (0 : Int32)), .unset]) at_195 rfl rfl ?_
    refine Rn.aloadN K (q := 198) at_197 rfl rfl rfl ?_
    refine Rn.virt K (q := 201) (W := 0) (y := (⟨"com/example/intreccio/intreccio/model/IpacClass", "isConcept", "()Z"⟩ : MethodName)) (z := (⟨"com/example/intreccio/intreccio/model/IpacClass", "isConcept", "()Z"⟩ : MethodName)) (b := aIDENTIFICATIVO) (argsL := []) (rest := []) (List.mem_of_getElem? (i := 49) rfl) (List.mem_of_getElem? (i := 50) rfl) (nfs K (List.mem_of_getElem? (i := 52) rfl)) (List.mem_of_getElem? (i := 52) rfl) (List.mem_of_getElem? (i := 51) rfl) (List.mem_of_getElem? (i := 53) rfl) (List.mem_of_getElem? (i := 3) rfl) (by decide) (m_conN l Z a0 hw n0 h23 aIDENTIFICATIVO (6 : Int32) (NIDENTIFICATIVO.2.ext X23.2) (NIDENTIFICATIVO.1.ext X23.2) (by decide)) (NIDENTIFICATIVO.1.ext X23.2) (by decide) (by decide) rfl (lenOf pd_1 rfl) rfl (Nat.le_of_ble_eq_true rfl) at_198 rfl (by decide) (by decide) ?_
    rintro _ _ ⟨rfl, rfl⟩
    show Rn w l _ n0 _ 201 #[.val (.int p1), .val (.ref b1), .val (.int (6 : Int32)), .val (.ref aIDENTIFICATIVO), .val (.int (0 : Int32)), .unset] [(.int (0 : Int32))] h23 1 22
    refine Rn.istore K (q := 203) (Ls' := #[.val (.int p1), .val (.ref b1), .val (.int (6 : Int32)), .val (.ref aIDENTIFICATIVO), .val (.int (0 : Int32)), .val (.int (0 : Int32))]) at_201 rfl rfl ?_
    refine Rn.iload K (q := 205) at_203 rfl rfl ?_
    refine Rn.iload K (q := 207) at_205 rfl rfl ?_
    refine Rn.icY K (q := 212) at_207 (XT.ii_eq_t rfl) (by decide) (by decide) ?_
    refine Rn.iload K (q := 214) at_212 rfl rfl ?_
    refine Rn.ifY K (q := 226) at_214 (XT.i0_eq_t rfl) (by decide) (by decide) ?_
    refine Rn.iconst K (q := 227) (1 : Int32) at_226 rfl rfl ?_
    exact Rn.retN K .boolean rfl (by simp) at_227 (by decide) (by decide) rfl
  · obtain rfl := own_lit (v := (7 : Int32)) hk (by decide)
    refine Rn.istoreN K (q := 162) (Ls' := #[.val (.int p1), .val (.ref b1), .val (.int (7 : Int32)), .unset, .unset, .unset]) at_161 rfl rfl ?_
    refine Rn.aloadN K (q := 163) at_162 rfl rfl rfl ?_
    refine Rn.iloadN K (q := 164) at_163 rfl rfl ?_
    refine Rn.aaload K (q := 165) (v := .ref aPERIODO_DI_TEMPO) A23 rfl (by decide) rfl at_164 rfl ?_
    refine Rn.astoreN K (q := 166) (Ls' := #[.val (.int p1), .val (.ref b1), .val (.int (7 : Int32)), .val (.ref aPERIODO_DI_TEMPO), .unset, .unset]) at_165 rfl rfl rfl ?_
    refine Rn.iloadN K (q := 167) at_166 rfl rfl ?_
    refine Rn.bipush K (q := 169) (9 : Int32) at_167 rfl rfl ?_
    refine Rn.icN K (q := 172) at_169 (XT.ii_eq_f (by decide)) rfl ?_
    refine Rn.iloadN K (q := 173) at_172 rfl rfl ?_
    refine Rn.bipush K (q := 175) (10 : Int32) at_173 rfl rfl ?_
    refine Rn.icN K (q := 178) at_175 (XT.ii_eq_f (by decide)) rfl ?_
    refine Rn.iloadN K (q := 179) at_178 rfl rfl ?_
    refine Rn.bipush K (q := 181) (11 : Int32) at_179 rfl rfl ?_
    refine Rn.icN K (q := 184) at_181 (XT.ii_eq_f (by decide)) rfl ?_
    refine Rn.iloadN K (q := 185) at_184 rfl rfl ?_
    refine Rn.bipush K (q := 187) (21 : Int32) at_185 rfl rfl ?_
    refine Rn.icY K (q := 194) at_187 (XT.ii_ne_t (by decide)) (by decide) (by decide) ?_
    refine Rn.iconst K (q := 195) (0 : Int32) at_194 rfl rfl ?_
    refine Rn.istore K (q := 197) (Ls' := #[.val (.int p1), .val (.ref b1), .val (.int (7 : Int32)), .val (.ref aPERIODO_DI_TEMPO), .val (.int (0 : Int32)), .unset]) at_195 rfl rfl ?_
    refine Rn.aloadN K (q := 198) at_197 rfl rfl rfl ?_
    refine Rn.virt K (q := 201) (W := 0) (y := (⟨"com/example/intreccio/intreccio/model/IpacClass", "isConcept", "()Z"⟩ : MethodName)) (z := (⟨"com/example/intreccio/intreccio/model/IpacClass", "isConcept", "()Z"⟩ : MethodName)) (b := aPERIODO_DI_TEMPO) (argsL := []) (rest := []) (List.mem_of_getElem? (i := 49) rfl) (List.mem_of_getElem? (i := 50) rfl) (nfs K (List.mem_of_getElem? (i := 52) rfl)) (List.mem_of_getElem? (i := 52) rfl) (List.mem_of_getElem? (i := 51) rfl) (List.mem_of_getElem? (i := 53) rfl) (List.mem_of_getElem? (i := 3) rfl) (by decide) (m_conN l Z a0 hw n0 h23 aPERIODO_DI_TEMPO (7 : Int32) (NPERIODO_DI_TEMPO.2.ext X23.2) (NPERIODO_DI_TEMPO.1.ext X23.2) (by decide)) (NPERIODO_DI_TEMPO.1.ext X23.2) (by decide) (by decide) rfl (lenOf pd_1 rfl) rfl (Nat.le_of_ble_eq_true rfl) at_198 rfl (by decide) (by decide) ?_
    rintro _ _ ⟨rfl, rfl⟩
    show Rn w l _ n0 _ 201 #[.val (.int p1), .val (.ref b1), .val (.int (7 : Int32)), .val (.ref aPERIODO_DI_TEMPO), .val (.int (0 : Int32)), .unset] [(.int (0 : Int32))] h23 1 22
    refine Rn.istore K (q := 203) (Ls' := #[.val (.int p1), .val (.ref b1), .val (.int (7 : Int32)), .val (.ref aPERIODO_DI_TEMPO), .val (.int (0 : Int32)), .val (.int (0 : Int32))]) at_201 rfl rfl ?_
    refine Rn.iload K (q := 205) at_203 rfl rfl ?_
    refine Rn.iload K (q := 207) at_205 rfl rfl ?_
    refine Rn.icY K (q := 212) at_207 (XT.ii_eq_t rfl) (by decide) (by decide) ?_
    refine Rn.iload K (q := 214) at_212 rfl rfl ?_
    refine Rn.ifY K (q := 226) at_214 (XT.i0_eq_t rfl) (by decide) (by decide) ?_
    refine Rn.iconst K (q := 227) (1 : Int32) at_226 rfl rfl ?_
    exact Rn.retN K .boolean rfl (by simp) at_227 (by decide) (by decide) rfl
  · obtain rfl := own_lit (v := (8 : Int32)) hk (by decide)
    refine Rn.istoreN K (q := 162) (Ls' := #[.val (.int p1), .val (.ref b1), .val (.int (8 : Int32)), .unset, .unset, .unset]) at_161 rfl rfl ?_
    refine Rn.aloadN K (q := 163) at_162 rfl rfl rfl ?_
    refine Rn.iloadN K (q := 164) at_163 rfl rfl ?_
    refine Rn.aaload K (q := 165) (v := .ref aCOINVOLGIMENTO) A23 rfl (by decide) rfl at_164 rfl ?_
    refine Rn.astoreN K (q := 166) (Ls' := #[.val (.int p1), .val (.ref b1), .val (.int (8 : Int32)), .val (.ref aCOINVOLGIMENTO), .unset, .unset]) at_165 rfl rfl rfl ?_
    refine Rn.iloadN K (q := 167) at_166 rfl rfl ?_
    refine Rn.bipush K (q := 169) (9 : Int32) at_167 rfl rfl ?_
    refine Rn.icN K (q := 172) at_169 (XT.ii_eq_f (by decide)) rfl ?_
    refine Rn.iloadN K (q := 173) at_172 rfl rfl ?_
    refine Rn.bipush K (q := 175) (10 : Int32) at_173 rfl rfl ?_
    refine Rn.icN K (q := 178) at_175 (XT.ii_eq_f (by decide)) rfl ?_
    refine Rn.iloadN K (q := 179) at_178 rfl rfl ?_
    refine Rn.bipush K (q := 181) (11 : Int32) at_179 rfl rfl ?_
    refine Rn.icN K (q := 184) at_181 (XT.ii_eq_f (by decide)) rfl ?_
    refine Rn.iloadN K (q := 185) at_184 rfl rfl ?_
    refine Rn.bipush K (q := 187) (21 : Int32) at_185 rfl rfl ?_
    refine Rn.icY K (q := 194) at_187 (XT.ii_ne_t (by decide)) (by decide) (by decide) ?_
    refine Rn.iconst K (q := 195) (0 : Int32) at_194 rfl rfl ?_
    refine Rn.istore K (q := 197) (Ls' := #[.val (.int p1), .val (.ref b1), .val (.int (8 : Int32)), .val (.ref aCOINVOLGIMENTO), .val (.int (0 : Int32)), .unset]) at_195 rfl rfl ?_
    refine Rn.aloadN K (q := 198) at_197 rfl rfl rfl ?_
    refine Rn.virt K (q := 201) (W := 0) (y := (⟨"com/example/intreccio/intreccio/model/IpacClass", "isConcept", "()Z"⟩ : MethodName)) (z := (⟨"com/example/intreccio/intreccio/model/IpacClass", "isConcept", "()Z"⟩ : MethodName)) (b := aCOINVOLGIMENTO) (argsL := []) (rest := []) (List.mem_of_getElem? (i := 49) rfl) (List.mem_of_getElem? (i := 50) rfl) (nfs K (List.mem_of_getElem? (i := 52) rfl)) (List.mem_of_getElem? (i := 52) rfl) (List.mem_of_getElem? (i := 51) rfl) (List.mem_of_getElem? (i := 53) rfl) (List.mem_of_getElem? (i := 3) rfl) (by decide) (m_conN l Z a0 hw n0 h23 aCOINVOLGIMENTO (8 : Int32) (NCOINVOLGIMENTO.2.ext X23.2) (NCOINVOLGIMENTO.1.ext X23.2) (by decide)) (NCOINVOLGIMENTO.1.ext X23.2) (by decide) (by decide) rfl (lenOf pd_1 rfl) rfl (Nat.le_of_ble_eq_true rfl) at_198 rfl (by decide) (by decide) ?_
    rintro _ _ ⟨rfl, rfl⟩
    show Rn w l _ n0 _ 201 #[.val (.int p1), .val (.ref b1), .val (.int (8 : Int32)), .val (.ref aCOINVOLGIMENTO), .val (.int (0 : Int32)), .unset] [(.int (0 : Int32))] h23 1 22
    refine Rn.istore K (q := 203) (Ls' := #[.val (.int p1), .val (.ref b1), .val (.int (8 : Int32)), .val (.ref aCOINVOLGIMENTO), .val (.int (0 : Int32)), .val (.int (0 : Int32))]) at_201 rfl rfl ?_
    refine Rn.iload K (q := 205) at_203 rfl rfl ?_
    refine Rn.iload K (q := 207) at_205 rfl rfl ?_
    refine Rn.icY K (q := 212) at_207 (XT.ii_eq_t rfl) (by decide) (by decide) ?_
    refine Rn.iload K (q := 214) at_212 rfl rfl ?_
    refine Rn.ifY K (q := 226) at_214 (XT.i0_eq_t rfl) (by decide) (by decide) ?_
    refine Rn.iconst K (q := 227) (1 : Int32) at_226 rfl rfl ?_
    exact Rn.retN K .boolean rfl (by simp) at_227 (by decide) (by decide) rfl
  · obtain rfl := own_lit (v := (9 : Int32)) hk (by decide)
    refine Rn.istoreN K (q := 162) (Ls' := #[.val (.int p1), .val (.ref b1), .val (.int (9 : Int32)), .unset, .unset, .unset]) at_161 rfl rfl ?_
    refine Rn.aloadN K (q := 163) at_162 rfl rfl rfl ?_
    refine Rn.iloadN K (q := 164) at_163 rfl rfl ?_
    refine Rn.aaload K (q := 165) (v := .ref aTIPOLOGIA) A23 rfl (by decide) rfl at_164 rfl ?_
    refine Rn.astoreN K (q := 166) (Ls' := #[.val (.int p1), .val (.ref b1), .val (.int (9 : Int32)), .val (.ref aTIPOLOGIA), .unset, .unset]) at_165 rfl rfl rfl ?_
    refine Rn.iloadN K (q := 167) at_166 rfl rfl ?_
    refine Rn.bipush K (q := 169) (9 : Int32) at_167 rfl rfl ?_
    refine Rn.icY K (q := 190) at_169 (XT.ii_eq_t rfl) (by decide) (by decide) ?_
    refine Rn.iconst K (q := 191) (1 : Int32) at_190 rfl rfl ?_
    refine Rn.goto K (q := 195) at_191 (by decide) (by decide) ?_
    refine Rn.istore K (q := 197) (Ls' := #[.val (.int p1), .val (.ref b1), .val (.int (9 : Int32)), .val (.ref aTIPOLOGIA), .val (.int (1 : Int32)), .unset]) at_195 rfl rfl ?_
    refine Rn.aloadN K (q := 198) at_197 rfl rfl rfl ?_
    refine Rn.virt K (q := 201) (W := 0) (y := (⟨"com/example/intreccio/intreccio/model/IpacClass", "isConcept", "()Z"⟩ : MethodName)) (z := (⟨"com/example/intreccio/intreccio/model/IpacClass", "isConcept", "()Z"⟩ : MethodName)) (b := aTIPOLOGIA) (argsL := []) (rest := []) (List.mem_of_getElem? (i := 49) rfl) (List.mem_of_getElem? (i := 50) rfl) (nfs K (List.mem_of_getElem? (i := 52) rfl)) (List.mem_of_getElem? (i := 52) rfl) (List.mem_of_getElem? (i := 51) rfl) (List.mem_of_getElem? (i := 53) rfl) (List.mem_of_getElem? (i := 3) rfl) (by decide) (m_conY l Z a0 hw n0 h23 aTIPOLOGIA (9 : Int32) (NTIPOLOGIA.2.ext X23.2) (NTIPOLOGIA.1.ext X23.2) (by decide)) (NTIPOLOGIA.1.ext X23.2) (by decide) (by decide) rfl (lenOf pd_1 rfl) rfl (Nat.le_of_ble_eq_true rfl) at_198 rfl (by decide) (by decide) ?_
    rintro _ _ ⟨rfl, rfl⟩
    show Rn w l _ n0 _ 201 #[.val (.int p1), .val (.ref b1), .val (.int (9 : Int32)), .val (.ref aTIPOLOGIA), .val (.int (1 : Int32)), .unset] [(.int (1 : Int32))] h23 1 22
    refine Rn.istore K (q := 203) (Ls' := #[.val (.int p1), .val (.ref b1), .val (.int (9 : Int32)), .val (.ref aTIPOLOGIA), .val (.int (1 : Int32)), .val (.int (1 : Int32))]) at_201 rfl rfl ?_
    refine Rn.iload K (q := 205) at_203 rfl rfl ?_
    refine Rn.iload K (q := 207) at_205 rfl rfl ?_
    refine Rn.icY K (q := 212) at_207 (XT.ii_eq_t rfl) (by decide) (by decide) ?_
    refine Rn.iload K (q := 214) at_212 rfl rfl ?_
    refine Rn.ifN K (q := 217) at_214 (XT.i0_eq_f (by decide)) rfl ?_
    refine Rn.aloadN K (q := 218) at_217 rfl rfl rfl ?_
    refine Rn.virt K (q := 221) (W := 0) (y := (⟨"com/example/intreccio/intreccio/model/IpacClass", "isAgent", "()Z"⟩ : MethodName)) (z := (⟨"com/example/intreccio/intreccio/model/IpacClass", "isAgent", "()Z"⟩ : MethodName)) (b := aTIPOLOGIA) (argsL := []) (rest := []) (List.mem_of_getElem? (i := 63) rfl) (List.mem_of_getElem? (i := 64) rfl) (nfs K (List.mem_of_getElem? (i := 66) rfl)) (List.mem_of_getElem? (i := 66) rfl) (List.mem_of_getElem? (i := 65) rfl) (List.mem_of_getElem? (i := 67) rfl) (List.mem_of_getElem? (i := 3) rfl) (by decide) (m_agN l Z a0 hw n0 h23 aTIPOLOGIA (9 : Int32) (NTIPOLOGIA.2.ext X23.2) (NTIPOLOGIA.1.ext X23.2) (by decide)) (NTIPOLOGIA.1.ext X23.2) (by decide) (by decide) rfl (lenOf pd_1 rfl) rfl (Nat.le_of_ble_eq_true rfl) at_218 rfl (by decide) (by decide) ?_
    rintro _ _ ⟨rfl, rfl⟩
    show Rn w l _ n0 _ 221 #[.val (.int p1), .val (.ref b1), .val (.int (9 : Int32)), .val (.ref aTIPOLOGIA), .val (.int (1 : Int32)), .val (.int (1 : Int32))] [(.int (0 : Int32))] h23 1 22
    refine Rn.ifY K (q := 226) at_221 (XT.i0_eq_t rfl) (by decide) (by decide) ?_
    refine Rn.iconst K (q := 227) (1 : Int32) at_226 rfl rfl ?_
    exact Rn.retN K .boolean rfl (by simp) at_227 (by decide) (by decide) rfl
  · obtain rfl := own_lit (v := (10 : Int32)) hk (by decide)
    refine Rn.istoreN K (q := 162) (Ls' := #[.val (.int p1), .val (.ref b1), .val (.int (10 : Int32)), .unset, .unset, .unset]) at_161 rfl rfl ?_
    refine Rn.aloadN K (q := 163) at_162 rfl rfl rfl ?_
    refine Rn.iloadN K (q := 164) at_163 rfl rfl ?_
    refine Rn.aaload K (q := 165) (v := .ref aRUOLO) A23 rfl (by decide) rfl at_164 rfl ?_
    refine Rn.astoreN K (q := 166) (Ls' := #[.val (.int p1), .val (.ref b1), .val (.int (10 : Int32)), .val (.ref aRUOLO), .unset, .unset]) at_165 rfl rfl rfl ?_
    refine Rn.iloadN K (q := 167) at_166 rfl rfl ?_
    refine Rn.bipush K (q := 169) (9 : Int32) at_167 rfl rfl ?_
    refine Rn.icN K (q := 172) at_169 (XT.ii_eq_f (by decide)) rfl ?_
    refine Rn.iloadN K (q := 173) at_172 rfl rfl ?_
    refine Rn.bipush K (q := 175) (10 : Int32) at_173 rfl rfl ?_
    refine Rn.icY K (q := 190) at_175 (XT.ii_eq_t rfl) (by decide) (by decide) ?_
    refine Rn.iconst K (q := 191) (1 : Int32) at_190 rfl rfl ?_
    refine Rn.goto K (q := 195) at_191 (by decide) (by decide) ?_
    refine Rn.istore K (q := 197) (Ls' := #[.val (.int p1), .val (.ref b1), .val (.int (10 : Int32)), .val (.ref aRUOLO), .val (.int (1 : Int32)), .unset]) at_195 rfl rfl ?_
    refine Rn.aloadN K (q := 198) at_197 rfl rfl rfl ?_
    refine Rn.virt K (q := 201) (W := 0) (y := (⟨"com/example/intreccio/intreccio/model/IpacClass", "isConcept", "()Z"⟩ : MethodName)) (z := (⟨"com/example/intreccio/intreccio/model/IpacClass", "isConcept", "()Z"⟩ : MethodName)) (b := aRUOLO) (argsL := []) (rest := []) (List.mem_of_getElem? (i := 49) rfl) (List.mem_of_getElem? (i := 50) rfl) (nfs K (List.mem_of_getElem? (i := 52) rfl)) (List.mem_of_getElem? (i := 52) rfl) (List.mem_of_getElem? (i := 51) rfl) (List.mem_of_getElem? (i := 53) rfl) (List.mem_of_getElem? (i := 3) rfl) (by decide) (m_conY l Z a0 hw n0 h23 aRUOLO (10 : Int32) (NRUOLO.2.ext X23.2) (NRUOLO.1.ext X23.2) (by decide)) (NRUOLO.1.ext X23.2) (by decide) (by decide) rfl (lenOf pd_1 rfl) rfl (Nat.le_of_ble_eq_true rfl) at_198 rfl (by decide) (by decide) ?_
    rintro _ _ ⟨rfl, rfl⟩
    show Rn w l _ n0 _ 201 #[.val (.int p1), .val (.ref b1), .val (.int (10 : Int32)), .val (.ref aRUOLO), .val (.int (1 : Int32)), .unset] [(.int (1 : Int32))] h23 1 22
    refine Rn.istore K (q := 203) (Ls' := #[.val (.int p1), .val (.ref b1), .val (.int (10 : Int32)), .val (.ref aRUOLO), .val (.int (1 : Int32)), .val (.int (1 : Int32))]) at_201 rfl rfl ?_
    refine Rn.iload K (q := 205) at_203 rfl rfl ?_
    refine Rn.iload K (q := 207) at_205 rfl rfl ?_
    refine Rn.icY K (q := 212) at_207 (XT.ii_eq_t rfl) (by decide) (by decide) ?_
    refine Rn.iload K (q := 214) at_212 rfl rfl ?_
    refine Rn.ifN K (q := 217) at_214 (XT.i0_eq_f (by decide)) rfl ?_
    refine Rn.aloadN K (q := 218) at_217 rfl rfl rfl ?_
    refine Rn.virt K (q := 221) (W := 0) (y := (⟨"com/example/intreccio/intreccio/model/IpacClass", "isAgent", "()Z"⟩ : MethodName)) (z := (⟨"com/example/intreccio/intreccio/model/IpacClass", "isAgent", "()Z"⟩ : MethodName)) (b := aRUOLO) (argsL := []) (rest := []) (List.mem_of_getElem? (i := 63) rfl) (List.mem_of_getElem? (i := 64) rfl) (nfs K (List.mem_of_getElem? (i := 66) rfl)) (List.mem_of_getElem? (i := 66) rfl) (List.mem_of_getElem? (i := 65) rfl) (List.mem_of_getElem? (i := 67) rfl) (List.mem_of_getElem? (i := 3) rfl) (by decide) (m_agN l Z a0 hw n0 h23 aRUOLO (10 : Int32) (NRUOLO.2.ext X23.2) (NRUOLO.1.ext X23.2) (by decide)) (NRUOLO.1.ext X23.2) (by decide) (by decide) rfl (lenOf pd_1 rfl) rfl (Nat.le_of_ble_eq_true rfl) at_218 rfl (by decide) (by decide) ?_
    rintro _ _ ⟨rfl, rfl⟩
    show Rn w l _ n0 _ 221 #[.val (.int p1), .val (.ref b1), .val (.int (10 : Int32)), .val (.ref aRUOLO), .val (.int (1 : Int32)), .val (.int (1 : Int32))] [(.int (0 : Int32))] h23 1 22
    refine Rn.ifY K (q := 226) at_221 (XT.i0_eq_t rfl) (by decide) (by decide) ?_
    refine Rn.iconst K (q := 227) (1 : Int32) at_226 rfl rfl ?_
    exact Rn.retN K .boolean rfl (by simp) at_227 (by decide) (by decide) rfl
  · obtain rfl := own_lit (v := (11 : Int32)) hk (by decide)
    refine Rn.istoreN K (q := 162) (Ls' := #[.val (.int p1), .val (.ref b1), .val (.int (11 : Int32)), .unset, .unset, .unset]) at_161 rfl rfl ?_
    refine Rn.aloadN K (q := 163) at_162 rfl rfl rfl ?_
    refine Rn.iloadN K (q := 164) at_163 rfl rfl ?_
    refine Rn.aaload K (q := 165) (v := .ref aMOTIVO_ATTRIBUZIONE) A23 rfl (by decide) rfl at_164 rfl ?_
    refine Rn.astoreN K (q := 166) (Ls' := #[.val (.int p1), .val (.ref b1), .val (.int (11 : Int32)), .val (.ref aMOTIVO_ATTRIBUZIONE), .unset, .unset]) at_165 rfl rfl rfl ?_
    refine Rn.iloadN K (q := 167) at_166 rfl rfl ?_
    refine Rn.bipush K (q := 169) (9 : Int32) at_167 rfl rfl ?_
    refine Rn.icN K (q := 172) at_169 (XT.ii_eq_f (by decide)) rfl ?_
    refine Rn.iloadN K (q := 173) at_172 rfl rfl ?_
    refine Rn.bipush K (q := 175) (10 : Int32) at_173 rfl rfl ?_
    refine Rn.icN K (q := 178) at_175 (XT.ii_eq_f (by decide)) rfl ?_
    refine Rn.iloadN K (q := 179) at_178 rfl rfl ?_
    refine Rn.bipush K (q := 181) (11 : Int32) at_179 rfl rfl ?_
    refine Rn.icY K (q := 190) at_181 (XT.ii_eq_t rfl) (by decide) (by decide) ?_
    refine Rn.iconst K (q := 191) (1 : Int32) at_190 rfl rfl ?_
    refine Rn.goto K (q := 195) at_191 (by decide) (by decide) ?_
    refine Rn.istore K (q := 197) (Ls' := #[.val (.int p1), .val (.ref b1), .val (.int (11 : Int32)), .val (.ref aMOTIVO_ATTRIBUZIONE), .val (.int (1 : Int32)), .unset]) at_195 rfl rfl ?_
    refine Rn.aloadN K (q := 198) at_197 rfl rfl rfl ?_
    refine Rn.virt K (q := 201) (W := 0) (y := (⟨"com/example/intreccio/intreccio/model/IpacClass", "isConcept", "()Z"⟩ : MethodName)) (z := (⟨"com/example/intreccio/intreccio/model/IpacClass", "isConcept", "()Z"⟩ : MethodName)) (b := aMOTIVO_ATTRIBUZIONE) (argsL := []) (rest := []) (List.mem_of_getElem? (i := 49) rfl) (List.mem_of_getElem? (i := 50) rfl) (nfs K (List.mem_of_getElem? (i := 52) rfl)) (List.mem_of_getElem? (i := 52) rfl) (List.mem_of_getElem? (i := 51) rfl) (List.mem_of_getElem? (i := 53) rfl) (List.mem_of_getElem? (i := 3) rfl) (by decide) (m_conY l Z a0 hw n0 h23 aMOTIVO_ATTRIBUZIONE (11 : Int32) (NMOTIVO_ATTRIBUZIONE.2.ext X23.2) (NMOTIVO_ATTRIBUZIONE.1.ext X23.2) (by decide)) (NMOTIVO_ATTRIBUZIONE.1.ext X23.2) (by decide) (by decide) rfl (lenOf pd_1 rfl) rfl (Nat.le_of_ble_eq_true rfl) at_198 rfl (by decide) (by decide) ?_
    rintro _ _ ⟨rfl, rfl⟩
    show Rn w l _ n0 _ 201 #[.val (.int p1), .val (.ref b1), .val (.int (11 : Int32)), .val (.ref aMOTIVO_ATTRIBUZIONE), .val (.int (1 : Int32)), .unset] [(.int (1 : Int32))] h23 1 22
    refine Rn.istore K (q := 203) (Ls' := #[.val (.int p1), .val (.ref b1), .val (.int (11 : Int32)), .val (.ref aMOTIVO_ATTRIBUZIONE), .val (.int (1 : Int32)), .val (.int (1 : Int32))]) at_201 rfl rfl ?_
    refine Rn.iload K (q := 205) at_203 rfl rfl ?_
    refine Rn.iload K (q := 207) at_205 rfl rfl ?_
    refine Rn.icY K (q := 212) at_207 (XT.ii_eq_t rfl) (by decide) (by decide) ?_
    refine Rn.iload K (q := 214) at_212 rfl rfl ?_
    refine Rn.ifN K (q := 217) at_214 (XT.i0_eq_f (by decide)) rfl ?_
    refine Rn.aloadN K (q := 218) at_217 rfl rfl rfl ?_
    refine Rn.virt K (q := 221) (W := 0) (y := (⟨"com/example/intreccio/intreccio/model/IpacClass", "isAgent", "()Z"⟩ : MethodName)) (z := (⟨"com/example/intreccio/intreccio/model/IpacClass", "isAgent", "()Z"⟩ : MethodName)) (b := aMOTIVO_ATTRIBUZIONE) (argsL := []) (rest := []) (List.mem_of_getElem? (i := 63) rfl) (List.mem_of_getElem? (i := 64) rfl) (nfs K (List.mem_of_getElem? (i := 66) rfl)) (List.mem_of_getElem? (i := 66) rfl) (List.mem_of_getElem? (i := 65) rfl) (List.mem_of_getElem? (i := 67) rfl) (List.mem_of_getElem? (i := 3) rfl) (by decide) (m_agN l Z a0 hw n0 h23 aMOTIVO_ATTRIBUZIONE (11 : Int32) (NMOTIVO_ATTRIBUZIONE.2.ext X23.2) (NMOTIVO_ATTRIBUZIONE.1.ext X23.2) (by decide)) (NMOTIVO_ATTRIBUZIONE.1.ext X23.2) (by decide) (by decide) rfl (lenOf pd_1 rfl) rfl (Nat.le_of_ble_eq_true rfl) at_218 rfl (by decide) (by decide) ?_
    rintro _ _ ⟨rfl, rfl⟩
    show Rn w l _ n0 _ 221 #[.val (.int p1), .val (.ref b1), .val (.int (11 : Int32)), .val (.ref aMOTIVO_ATTRIBUZIONE), .val (.int (1 : Int32)), .val (.int (1 : Int32))] [(.int (0 : Int32))] h23 1 22
    refine Rn.ifY K (q := 226) at_221 (XT.i0_eq_t rfl) (by decide) (by decide) ?_
    refine Rn.iconst K (q := 227) (1 : Int32) at_226 rfl rfl ?_
    exact Rn.retN K .boolean rfl (by simp) at_227 (by decide) (by decide) rfl
  · obtain rfl := own_lit (v := (12 : Int32)) hk (by decide)
    refine Rn.istoreN K (q := 162) (Ls' := #[.val (.int p1), .val (.ref b1), .val (.int (12 : Int32)), .unset, .unset, .unset]) at_161 rfl rfl ?_
    refine Rn.aloadN K (q := 163) at_162 rfl rfl rfl ?_
    refine Rn.iloadN K (q := 164) at_163 rfl rfl ?_
    refine Rn.aaload K (q := 165) (v := .ref aLUOGO_FISICO) A23 rfl (by decide) rfl at_164 rfl ?_
    refine Rn.astoreN K (q := 166) (Ls' := #[.val (.int p1), .val (.ref b1), .val (.int (12 : Int32)), .val (.ref aLUOGO_FISICO), .unset, .unset]) at_165 rfl rfl rfl ?_
    refine Rn.iloadN K (q := 167) at_166 rfl rfl ?_
    refine Rn.bipush K (q := 169) (9 : Int32) at_167 rfl rfl ?_
    refine Rn.icN K (q := 172) at_169 (XT.ii_eq_f (by decide)) rfl ?_
    refine Rn.iloadN K (q := 173) at_172 rfl rfl ?_
    refine Rn.bipush K (q := 175) (10 : Int32) at_173 rfl rfl ?_
    refine Rn.icN K (q := 178) at_175 (XT.ii_eq_f (by decide)) rfl ?_
    refine Rn.iloadN K (q := 179) at_178 rfl rfl ?_
    refine Rn.bipush K (q := 181) (11 : Int32) at_179 rfl rfl ?_
    refine Rn.icN K (q := 184) at_181 (XT.ii_eq_f (by decide)) rfl ?_
    refine Rn.iloadN K (q := 185) at_184 rfl rfl ?_
    refine Rn.bipush K (q := 187) (21 : Int32) at_185 rfl rfl ?_
    refine Rn.icY K (q := 194) at_187 (XT.ii_ne_t (by decide)) (by decide) (by decide) ?_
    refine Rn.iconst K (q := 195) (0 : Int32) at_194 rfl rfl ?_
    refine Rn.istore K (q := 197) (Ls' := #[.val (.int p1), .val (.ref b1), .val (.int (12 : Int32)), .val (.ref aLUOGO_FISICO), .val (.int (0 : Int32)), .unset]) at_195 rfl rfl ?_
    refine Rn.aloadN K (q := 198) at_197 rfl rfl rfl ?_
    refine Rn.virt K (q := 201) (W := 0) (y := (⟨"com/example/intreccio/intreccio/model/IpacClass", "isConcept", "()Z"⟩ : MethodName)) (z := (⟨"com/example/intreccio/intreccio/model/IpacClass", "isConcept", "()Z"⟩ : MethodName)) (b := aLUOGO_FISICO) (argsL := []) (rest := []) (List.mem_of_getElem? (i := 49) rfl) (List.mem_of_getElem? (i := 50) rfl) (nfs K (List.mem_of_getElem? (i := 52) rfl)) (List.mem_of_getElem? (i := 52) rfl) (List.mem_of_getElem? (i := 51) rfl) (List.mem_of_getElem? (i := 53) rfl) (List.mem_of_getElem? (i := 3) rfl) (by decide) (m_conN l Z a0 hw n0 h23 aLUOGO_FISICO (12 : Int32) (NLUOGO_FISICO.2.ext X23.2) (NLUOGO_FISICO.1.ext X23.2) (by decide)) (NLUOGO_FISICO.1.ext X23.2) (by decide) (by decide) rfl (lenOf pd_1 rfl) rfl (Nat.le_of_ble_eq_true rfl) at_198 rfl (by decide) (by decide) ?_
    rintro _ _ ⟨rfl, rfl⟩
    show Rn w l _ n0 _ 201 #[.val (.int p1), .val (.ref b1), .val (.int (12 : Int32)), .val (.ref aLUOGO_FISICO), .val (.int (0 : Int32)), .unset] [(.int (0 : Int32))] h23 1 22
    refine Rn.istore K (q := 203) (Ls' := #[.val (.int p1), .val (.ref b1), .val (.int (12 : Int32)), .val (.ref aLUOGO_FISICO), .val (.int (0 : Int32)), .val (.int (0 : Int32))]) at_201 rfl rfl ?_
    refine Rn.iload K (q := 205) at_203 rfl rfl ?_
    refine Rn.iload K (q := 207) at_205 rfl rfl ?_
    refine Rn.icY K (q := 212) at_207 (XT.ii_eq_t rfl) (by decide) (by decide) ?_
    refine Rn.iload K (q := 214) at_212 rfl rfl ?_
    refine Rn.ifY K (q := 226) at_214 (XT.i0_eq_t rfl) (by decide) (by decide) ?_
    refine Rn.iconst K (q := 227) (1 : Int32) at_226 rfl rfl ?_
    exact Rn.retN K .boolean rfl (by simp) at_227 (by decide) (by decide) rfl
  · obtain rfl := own_lit (v := (13 : Int32)) hk (by decide)
    refine Rn.istoreN K (q := 162) (Ls' := #[.val (.int p1), .val (.ref b1), .val (.int (13 : Int32)), .unset, .unset, .unset]) at_161 rfl rfl ?_
    refine Rn.aloadN K (q := 163) at_162 rfl rfl rfl ?_
    refine Rn.iloadN K (q := 164) at_163 rfl rfl ?_
    refine Rn.aaload K (q := 165) (v := .ref aCONTENITORE_FISICO) A23 rfl (by decide) rfl at_164 rfl ?_
    refine Rn.astoreN K (q := 166) (Ls' := #[.val (.int p1), .val (.ref b1), .val (.int (13 : Int32)), .val (.ref aCONTENITORE_FISICO), .unset, .unset]) at_165 rfl rfl rfl ?_
    refine Rn.iloadN K (q := 167) at_166 rfl rfl ?_
    refine Rn.bipush K (q := 169) (9 : Int32) at_167 rfl rfl ?_
    refine Rn.icN K (q := 172) at_169 (XT.ii_eq_f (by decide)) rfl ?_
    refine Rn.iloadN K (q := 173) at_172 rfl rfl ?_
    refine Rn.bipush K (q := 175) (10 : Int32) at_173 rfl rfl ?_
    refine Rn.icN K (q := 178) at_175 (XT.ii_eq_f (by decide)) rfl ?_
    refine Rn.iloadN K (q := 179) at_178 rfl rfl ?_
    refine Rn.bipush K (q := 181) (11 : Int32) at_179 rfl rfl ?_
    refine Rn.icN K (q := 184) at_181 (XT.ii_eq_f (by decide)) rfl ?_
    refine Rn.iloadN K (q := 185) at_184 rfl rfl ?_
    refine Rn.bipush K (q := 187) (21 : Int32) at_185 rfl rfl ?_
    refine Rn.icY K (q := 194) at_187 (XT.ii_ne_t (by decide)) (by decide) (by decide) ?_
    refine Rn.iconst K (q := 195) (0 : Int32) at_194 rfl rfl ?_
    refine Rn.istore K (q := 197) (Ls' := #[.val (.int p1), .val (.ref b1), .val (.int (13 : Int32)), .val (.ref aCONTENITORE_FISICO), .val (.int (0 : Int32)), .unset]) at_195 rfl rfl ?_
    refine Rn.aloadN K (q := 198) at_197 rfl rfl rfl ?_
    refine Rn.virt K (q := 201) (W := 0) (y := (⟨"com/example/intreccio/intreccio/model/IpacClass", "isConcept", "()Z"⟩ : MethodName)) (z := (⟨"com/example/intreccio/intreccio/model/IpacClass", "isConcept", "()Z"⟩ : MethodName)) (b := aCONTENITORE_FISICO) (argsL := []) (rest := []) (List.mem_of_getElem? (i := 49) rfl) (List.mem_of_getElem? (i := 50) rfl) (nfs K (List.mem_of_getElem? (i := 52) rfl)) (List.mem_of_getElem? (i := 52) rfl) (List.mem_of_getElem? (i := 51) rfl) (List.mem_of_getElem? (i := 53) rfl) (List.mem_of_getElem? (i := 3) rfl) (by decide) (m_conN l Z a0 hw n0 h23 aCONTENITORE_FISICO (13 : Int32) (NCONTENITORE_FISICO.2.ext X23.2) (NCONTENITORE_FISICO.1.ext X23.2) (by decide)) (NCONTENITORE_FISICO.1.ext X23.2) (by decide) (by decide) rfl (lenOf pd_1 rfl) rfl (Nat.le_of_ble_eq_true rfl) at_198 rfl (by decide) (by decide) ?_
    rintro _ _ ⟨rfl, rfl⟩
    show Rn w l _ n0 _ 201 #[.val (.int p1), .val (.ref b1), .val (.int (13 : Int32)), .val (.ref aCONTENITORE_FISICO), .val (.int (0 : Int32)), .unset] [(.int (0 : Int32))] h23 1 22
    refine Rn.istore K (q := 203) (Ls' := #[.val (.int p1), .val (.ref b1), .val (.int (13 : Int32)), .val (.ref aCONTENITORE_FISICO), .val (.int (0 : Int32)), .val (.int (0 : Int32))]) at_201 rfl rfl ?_
    refine Rn.iload K (q := 205) at_203 rfl rfl ?_
    refine Rn.iload K (q := 207) at_205 rfl rfl ?_
    refine Rn.icY K (q := 212) at_207 (XT.ii_eq_t rfl) (by decide) (by decide) ?_
    refine Rn.iload K (q := 214) at_212 rfl rfl ?_
    refine Rn.ifY K (q := 226) at_214 (XT.i0_eq_t rfl) (by decide) (by decide) ?_
    refine Rn.iconst K (q := 227) (1 : Int32) at_226 rfl rfl ?_
    exact Rn.retN K .boolean rfl (by simp) at_227 (by decide) (by decide) rfl
  · obtain rfl := own_lit (v := (14 : Int32)) hk (by decide)
    refine Rn.istoreN K (q := 162) (Ls' := #[.val (.int p1), .val (.ref b1), .val (.int (14 : Int32)), .unset, .unset, .unset]) at_161 rfl rfl ?_
    refine Rn.aloadN K (q := 163) at_162 rfl rfl rfl ?_
    refine Rn.iloadN K (q := 164) at_163 rfl rfl ?_
    refine Rn.aaload K (q := 165) (v := .ref aINDIRIZZO) A23 rfl (by decide) rfl at_164 rfl ?_
    refine Rn.astoreN K (q := 166) (Ls' := #[.val (.int p1), .val (.ref b1), .val (.int (14 : Int32)), .val (.ref aINDIRIZZO), .unset, .unset]) at_165 rfl rfl rfl ?_
    refine Rn.iloadN K (q := 167) at_166 rfl rfl ?_
    refine Rn.bipush K (q := 169) (9 : Int32) at_167 rfl rfl ?_
    refine Rn.icN K (q := 172) at_169 (XT.ii_eq_f (by decide)) rfl ?_
    refine Rn.iloadN K (q := 173) at_172 rfl rfl ?_
    refine Rn.bipush K (q := 175) (10 : Int32) at_173 rfl rfl ?_
    refine Rn.icN K (q := 178) at_175 (XT.ii_eq_f (by decide)) rfl ?_
    refine Rn.iloadN K (q := 179) at_178 rfl rfl ?_
    refine Rn.bipush K (q := 181) (11 : Int32) at_179 rfl rfl ?_
    refine Rn.icN K (q := 184) at_181 (XT.ii_eq_f (by decide)) rfl ?_
    refine Rn.iloadN K (q := 185) at_184 rfl rfl ?_
    refine Rn.bipush K (q := 187) (21 : Int32) at_185 rfl rfl ?_
    refine Rn.icY K (q := 194) at_187 (XT.ii_ne_t (by decide)) (by decide) (by decide) ?_
    refine Rn.iconst K (q := 195) (0 : Int32) at_194 rfl rfl ?_
    refine Rn.istore K (q := 197) (Ls' := #[.val (.int p1), .val (.ref b1), .val (.int (14 : Int32)), .val (.ref aINDIRIZZO), .val (.int (0 : Int32)), .unset]) at_195 rfl rfl ?_
    refine Rn.aloadN K (q := 198) at_197 rfl rfl rfl ?_
    refine Rn.virt K (q := 201) (W := 0) (y := (⟨"com/example/intreccio/intreccio/model/IpacClass", "isConcept", "()Z"⟩ : MethodName)) (z := (⟨"com/example/intreccio/intreccio/model/IpacClass", "isConcept", "()Z"⟩ : MethodName)) (b := aINDIRIZZO) (argsL := []) (rest := []) (List.mem_of_getElem? (i := 49) rfl) (List.mem_of_getElem? (i := 50) rfl) (nfs K (List.mem_of_getElem? (i := 52) rfl)) (List.mem_of_getElem? (i := 52) rfl) (List.mem_of_getElem? (i := 51) rfl) (List.mem_of_getElem? (i := 53) rfl) (List.mem_of_getElem? (i := 3) rfl) (by decide) (m_conN l Z a0 hw n0 h23 aINDIRIZZO (14 : Int32) (NINDIRIZZO.2.ext X23.2) (NINDIRIZZO.1.ext X23.2) (by decide)) (NINDIRIZZO.1.ext X23.2) (by decide) (by decide) rfl (lenOf pd_1 rfl) rfl (Nat.le_of_ble_eq_true rfl) at_198 rfl (by decide) (by decide) ?_
    rintro _ _ ⟨rfl, rfl⟩
    show Rn w l _ n0 _ 201 #[.val (.int p1), .val (.ref b1), .val (.int (14 : Int32)), .val (.ref aINDIRIZZO), .val (.int (0 : Int32)), .unset] [(.int (0 : Int32))] h23 1 22
    refine Rn.istore K (q := 203) (Ls' := #[.val (.int p1), .val (.ref b1), .val (.int (14 : Int32)), .val (.ref aINDIRIZZO), .val (.int (0 : Int32)), .val (.int (0 : Int32))]) at_201 rfl rfl ?_
    refine Rn.iload K (q := 205) at_203 rfl rfl ?_
    refine Rn.iload K (q := 207) at_205 rfl rfl ?_
    refine Rn.icY K (q := 212) at_207 (XT.ii_eq_t rfl) (by decide) (by decide) ?_
    refine Rn.iload K (q := 214) at_212 rfl rfl ?_
    refine Rn.ifY K (q := 226) at_214 (XT.i0_eq_t rfl) (by decide) (by decide) ?_
    refine Rn.iconst K (q := 227) (1 : Int32) at_226 rfl rfl ?_
    exact Rn.retN K .boolean rfl (by simp) at_227 (by decide) (by decide) rfl
  · obtain rfl := own_lit (v := (15 : Int32)) hk (by decide)
    refine Rn.istoreN K (q := 162) (Ls' := #[.val (.int p1), .val (.ref b1), .val (.int (15 : Int32)), .unset, .unset, .unset]) at_161 rfl rfl ?_
    refine Rn.aloadN K (q := 163) at_162 rfl rfl rfl ?_
    refine Rn.iloadN K (q := 164) at_163 rfl rfl ?_
    refine Rn.aaload K (q := 165) (v := .ref aCITTA) A23 rfl (by decide) rfl at_164 rfl ?_
    refine Rn.astoreN K (q := 166) (Ls' := #[.val (.int p1), .val (.ref b1), .val (.int (15 : Int32)), .val (.ref aCITTA), .unset, .unset]) at_165 rfl rfl rfl ?_
    refine Rn.iloadN K (q := 167) at_166 rfl rfl ?_
    refine Rn.bipush K (q := 169) (9 : Int32) at_167 rfl rfl ?_
    refine Rn.icN K (q := 172) at_169 (XT.ii_eq_f (by decide)) rfl ?_
    refine Rn.iloadN K (q := 173) at_172 rfl rfl ?_
    refine Rn.bipush K (q := 175) (10 : Int32) at_173 rfl rfl ?_
    refine Rn.icN K (q := 178) at_175 (XT.ii_eq_f (by decide)) rfl ?_
    refine Rn.iloadN K (q := 179) at_178 rfl rfl ?_
    refine Rn.bipush K (q := 181) (11 : Int32) at_179 rfl rfl ?_
    refine Rn.icN K (q := 184) at_181 (XT.ii_eq_f (by decide)) rfl ?_
    refine Rn.iloadN K (q := 185) at_184 rfl rfl ?_
    refine Rn.bipush K (q := 187) (21 : Int32) at_185 rfl rfl ?_
    refine Rn.icY K (q := 194) at_187 (XT.ii_ne_t (by decide)) (by decide) (by decide) ?_
    refine Rn.iconst K (q := 195) (0 : Int32) at_194 rfl rfl ?_
    refine Rn.istore K (q := 197) (Ls' := #[.val (.int p1), .val (.ref b1), .val (.int (15 : Int32)), .val (.ref aCITTA), .val (.int (0 : Int32)), .unset]) at_195 rfl rfl ?_
    refine Rn.aloadN K (q := 198) at_197 rfl rfl rfl ?_
    refine Rn.virt K (q := 201) (W := 0) (y := (⟨"com/example/intreccio/intreccio/model/IpacClass", "isConcept", "()Z"⟩ : MethodName)) (z := (⟨"com/example/intreccio/intreccio/model/IpacClass", "isConcept", "()Z"⟩ : MethodName)) (b := aCITTA) (argsL := []) (rest := []) (List.mem_of_getElem? (i := 49) rfl) (List.mem_of_getElem? (i := 50) rfl) (nfs K (List.mem_of_getElem? (i := 52) rfl)) (List.mem_of_getElem? (i := 52) rfl) (List.mem_of_getElem? (i := 51) rfl) (List.mem_of_getElem? (i := 53) rfl) (List.mem_of_getElem? (i := 3) rfl) (by decide) (m_conN l Z a0 hw n0 h23 aCITTA (15 : Int32) (NCITTA.2.ext X23.2) (NCITTA.1.ext X23.2) (by decide)) (NCITTA.1.ext X23.2) (by decide) (by decide) rfl (lenOf pd_1 rfl) rfl (Nat.le_of_ble_eq_true rfl) at_198 rfl (by decide) (by decide) ?_
    rintro _ _ ⟨rfl, rfl⟩
    show Rn w l _ n0 _ 201 #[.val (.int p1), .val (.ref b1), .val (.int (15 : Int32)), .val (.ref aCITTA), .val (.int (0 : Int32)), .unset] [(.int (0 : Int32))] h23 1 22
    refine Rn.istore K (q := 203) (Ls' := #[.val (.int p1), .val (.ref b1), .val (.int (15 : Int32)), .val (.ref aCITTA), .val (.int (0 : Int32)), .val (.int (0 : Int32))]) at_201 rfl rfl ?_
    refine Rn.iload K (q := 205) at_203 rfl rfl ?_
    refine Rn.iload K (q := 207) at_205 rfl rfl ?_
    refine Rn.icY K (q := 212) at_207 (XT.ii_eq_t rfl) (by decide) (by decide) ?_
    refine Rn.iload K (q := 214) at_212 rfl rfl ?_
    refine Rn.ifY K (q := 226) at_214 (XT.i0_eq_t rfl) (by decide) (by decide) ?_
    refine Rn.iconst K (q := 227) (1 : Int32) at_226 rfl rfl ?_
    exact Rn.retN K .boolean rfl (by simp) at_227 (by decide) (by decide) rfl
  · obtain rfl := own_lit (v := (16 : Int32)) hk (by decide)
    refine Rn.istoreN K (q := 162) (Ls' := #[.val (.int p1), .val (.ref b1), .val (.int (16 : Int32)), .unset, .unset, .unset]) at_161 rfl rfl ?_
    refine Rn.aloadN K (q := 163) at_162 rfl rfl rfl ?_
    refine Rn.iloadN K (q := 164) at_163 rfl rfl ?_
    refine Rn.aaload K (q := 165) (v := .ref aPROVINCIA) A23 rfl (by decide) rfl at_164 rfl ?_
    refine Rn.astoreN K (q := 166) (Ls' := #[.val (.int p1), .val (.ref b1), .val (.int (16 : Int32)), .val (.ref aPROVINCIA), .unset, .unset]) at_165 rfl rfl rfl ?_
    refine Rn.iloadN K (q := 167) at_166 rfl rfl ?_
    refine Rn.bipush K (q := 169) (9 : Int32) at_167 rfl rfl ?_
    refine Rn.icN K (q := 172) at_169 (XT.ii_eq_f (by decide)) rfl ?_
    refine Rn.iloadN K (q := 173) at_172 rfl rfl ?_
    refine Rn.bipush K (q := 175) (10 : Int32) at_173 rfl rfl ?_
    refine Rn.icN K (q := 178) at_175 (XT.ii_eq_f (by decide)) rfl ?_
    refine Rn.iloadN K (q := 179) at_178 rfl rfl ?_
    refine Rn.bipush K (q := 181) (11 : Int32) at_179 rfl rfl ?_
    refine Rn.icN K (q := 184) at_181 (XT.ii_eq_f (by decide)) rfl ?_
    refine Rn.iloadN K (q := 185) at_184 rfl rfl ?_
    refine Rn.bipush K (q := 187) (21 : Int32) at_185 rfl rfl ?_
    refine Rn.icY K (q := 194) at_187 (XT.ii_ne_t (by decide)) (by decide) (by decide) ?_
    refine Rn.iconst K (q := 195) (0 : Int32) at_194 rfl rfl ?_
    refine Rn.istore K (q := 197) (Ls' := #[.val (.int p1), .val (.ref b1), .val (.int (16 : Int32)), .val (.ref aPROVINCIA), .val (.int (0 : Int32)), .unset]) at_195 rfl rfl ?_
    refine Rn.aloadN K (q := 198) at_197 rfl rfl rfl ?_
    refine Rn.virt K (q := 201) (W := 0) (y := (⟨"com/example/intreccio/intreccio/model/IpacClass", "isConcept", "()Z"⟩ : MethodName)) (z := (⟨"com/example/intreccio/intreccio/model/IpacClass", "isConcept", "()Z"⟩ : MethodName)) (b := aPROVINCIA) (argsL := []) (rest := []) (List.mem_of_getElem? (i := 49) rfl) (List.mem_of_getElem? (i := 50) rfl) (nfs K (List.mem_of_getElem? (i := 52) rfl)) (List.mem_of_getElem? (i := 52) rfl) (List.mem_of_getElem? (i := 51) rfl) (List.mem_of_getElem? (i := 53) rfl) (List.mem_of_getElem? (i := 3) rfl) (by decide) (m_conN l Z a0 hw n0 h23 aPROVINCIA (16 : Int32) (NPROVINCIA.2.ext X23.2) (NPROVINCIA.1.ext X23.2) (by decide)) (NPROVINCIA.1.ext X23.2) (by decide) (by decide) rfl (lenOf pd_1 rfl) rfl (Nat.le_of_ble_eq_true rfl) at_198 rfl (by decide) (by decide) ?_
    rintro _ _ ⟨rfl, rfl⟩
    show Rn w l _ n0 _ 201 #[.val (.int p1), .val (.ref b1), .val (.int (16 : Int32)), .val (.ref aPROVINCIA), .val (.int (0 : Int32)), .unset] [(.int (0 : Int32))] h23 1 22
    refine Rn.istore K (q := 203) (Ls' := #[.val (.int p1), .val (.ref b1), .val (.int (16 : Int32)), .val (.ref aPROVINCIA), .val (.int (0 : Int32)), .val (.int (0 : Int32))]) at_201 rfl rfl ?_
    refine Rn.iload K (q := 205) at_203 rfl rfl ?_
    refine Rn.iload K (q := 207) at_205 rfl rfl ?_
    refine Rn.icY K (q := 212) at_207 (XT.ii_eq_t rfl) (by decide) (by decide) ?_
    refine Rn.iload K (q := 214) at_212 rfl rfl ?_
    refine Rn.ifY K (q := 226) at_214 (XT.i0_eq_t rfl) (by decide) (by decide) ?_
    refine Rn.iconst K (q := 227) (1 : Int32) at_226 rfl rfl ?_
    exact Rn.retN K .boolean rfl (by simp) at_227 (by decide) (by decide) rfl
  · obtain rfl := own_lit (v := (17 : Int32)) hk (by decide)
    refine Rn.istoreN K (q := 162) (Ls' := #[.val (.int p1), .val (.ref b1), .val (.int (17 : Int32)), .unset, .unset, .unset]) at_161 rfl rfl ?_
    refine Rn.aloadN K (q := 163) at_162 rfl rfl rfl ?_
    refine Rn.iloadN K (q := 164) at_163 rfl rfl ?_
    refine Rn.aaload K (q := 165) (v := .ref aREGIONE) A23 rfl (by decide) rfl at_164 rfl ?_
    refine Rn.astoreN K (q := 166) (Ls' := #[.val (.int p1), .val (.ref b1), .val (.int (17 : Int32)), .val (.ref aREGIONE), .unset, .unset]) at_165 rfl rfl rfl ?_
    refine Rn.iloadN K (q := 167) at_166 rfl rfl ?_
    refine Rn.bipush K (q := 169) (9 : Int32) at_167 rfl rfl ?_
    refine Rn.icN K (q := 172) at_169 (XT.ii_eq_f (by decide)) rfl ?_
    refine Rn.iloadN K (q := 173) at_172 rfl rfl ?_
    refine Rn.bipush K (q := 175) (10 : Int32) at_173 rfl rfl ?_
    refine Rn.icN K (q := 178) at_175 (XT.ii_eq_f (by decide)) rfl ?_
    refine Rn.iloadN K (q := 179) at_178 rfl rfl ?_
    refine Rn.bipush K (q := 181) (11 : Int32) at_179 rfl rfl ?_
    refine Rn.icN K (q := 184) at_181 (XT.ii_eq_f (by decide)) rfl ?_
    refine Rn.iloadN K (q := 185) at_184 rfl rfl ?_
    refine Rn.bipush K (q := 187) (21 : Int32) at_185 rfl rfl ?_
    refine Rn.icY K (q := 194) at_187 (XT.ii_ne_t (by decide)) (by decide) (by decide) ?_
    refine Rn.iconst K (q := 195) (0 : Int32) at_194 rfl rfl ?_
    refine Rn.istore K (q := 197) (Ls' := #[.val (.int p1), .val (.ref b1), .val (.int (17 : Int32)), .val (.ref aREGIONE), .val (.int (0 : Int32)), .unset]) at_195 rfl rfl ?_
    refine Rn.aloadN K (q := 198) at_197 rfl rfl rfl ?_
    refine Rn.virt K (q := 201) (W := 0) (y := (⟨"com/example/intreccio/intreccio/model/IpacClass", "isConcept", "()Z"⟩ : MethodName)) (z := (⟨"com/example/intreccio/intreccio/model/IpacClass", "isConcept", "()Z"⟩ : MethodName)) (b := aREGIONE) (argsL := []) (rest := []) (List.mem_of_getElem? (i := 49) rfl) (List.mem_of_getElem? (i := 50) rfl) (nfs K (List.mem_of_getElem? (i := 52) rfl)) (List.mem_of_getElem? (i := 52) rfl) (List.mem_of_getElem? (i := 51) rfl) (List.mem_of_getElem? (i := 53) rfl) (List.mem_of_getElem? (i := 3) rfl) (by decide) (m_conN l Z a0 hw n0 h23 aREGIONE (17 : Int32) (NREGIONE.2.ext X23.2) (NREGIONE.1.ext X23.2) (by decide)) (NREGIONE.1.ext X23.2) (by decide) (by decide) rfl (lenOf pd_1 rfl) rfl (Nat.le_of_ble_eq_true rfl) at_198 rfl (by decide) (by decide) ?_
    rintro _ _ ⟨rfl, rfl⟩
    show Rn w l _ n0 _ 201 #[.val (.int p1), .val (.ref b1), .val (.int (17 : Int32)), .val (.ref aREGIONE), .val (.int (0 : Int32)), .unset] [(.int (0 : Int32))] h23 1 22
    refine Rn.istore K (q := 203) (Ls' := #[.val (.int p1), .val (.ref b1), .val (.int (17 : Int32)), .val (.ref aREGIONE), .val (.int (0 : Int32)), .val (.int (0 : Int32))]) at_201 rfl rfl ?_
    refine Rn.iload K (q := 205) at_203 rfl rfl ?_
    refine Rn.iload K (q := 207) at_205 rfl rfl ?_
    refine Rn.icY K (q := 212) at_207 (XT.ii_eq_t rfl) (by decide) (by decide) ?_
    refine Rn.iload K (q := 214) at_212 rfl rfl ?_
    refine Rn.ifY K (q := 226) at_214 (XT.i0_eq_t rfl) (by decide) (by decide) ?_
    refine Rn.iconst K (q := 227) (1 : Int32) at_226 rfl rfl ?_
    exact Rn.retN K .boolean rfl (by simp) at_227 (by decide) (by decide) rfl
  · obtain rfl := own_lit (v := (18 : Int32)) hk (by decide)
    refine Rn.istoreN K (q := 162) (Ls' := #[.val (.int p1), .val (.ref b1), .val (.int (18 : Int32)), .unset, .unset, .unset]) at_161 rfl rfl ?_
    refine Rn.aloadN K (q := 163) at_162 rfl rfl rfl ?_
    refine Rn.iloadN K (q := 164) at_163 rfl rfl ?_
    refine Rn.aaload K (q := 165) (v := .ref aPAESE) A23 rfl (by decide) rfl at_164 rfl ?_
    refine Rn.astoreN K (q := 166) (Ls' := #[.val (.int p1), .val (.ref b1), .val (.int (18 : Int32)), .val (.ref aPAESE), .unset, .unset]) at_165 rfl rfl rfl ?_
    refine Rn.iloadN K (q := 167) at_166 rfl rfl ?_
    refine Rn.bipush K (q := 169) (9 : Int32) at_167 rfl rfl ?_
    refine Rn.icN K (q := 172) at_169 (XT.ii_eq_f (by decide)) rfl ?_
    refine Rn.iloadN K (q := 173) at_172 rfl rfl ?_
    refine Rn.bipush K (q := 175) (10 : Int32) at_173 rfl rfl ?_
    refine Rn.icN K (q := 178) at_175 (XT.ii_eq_f (by decide)) rfl ?_
    refine Rn.iloadN K (q := 179) at_178 rfl rfl ?_
    refine Rn.bipush K (q := 181) (11 : Int32) at_179 rfl rfl ?_
    refine Rn.icN K (q := 184) at_181 (XT.ii_eq_f (by decide)) rfl ?_
    refine Rn.iloadN K (q := 185) at_184 rfl rfl ?_
    refine Rn.bipush K (q := 187) (21 : Int32) at_185 rfl rfl ?_
    refine Rn.icY K (q := 194) at_187 (XT.ii_ne_t (by decide)) (by decide) (by decide) ?_
    refine Rn.iconst K (q := 195) (0 : Int32) at_194 rfl rfl ?_
    refine Rn.istore K (q := 197) (Ls' := #[.val (.int p1), .val (.ref b1), .val (.int (18 : Int32)), .val (.ref aPAESE), .val (.int (0 : Int32)), .unset]) at_195 rfl rfl ?_
    refine Rn.aloadN K (q := 198) at_197 rfl rfl rfl ?_
    refine Rn.virt K (q := 201) (W := 0) (y := (⟨"com/example/intreccio/intreccio/model/IpacClass", "isConcept", "()Z"⟩ : MethodName)) (z := (⟨"com/example/intreccio/intreccio/model/IpacClass", "isConcept", "()Z"⟩ : MethodName)) (b := aPAESE) (argsL := []) (rest := []) (List.mem_of_getElem? (i := 49) rfl) (List.mem_of_getElem? (i := 50) rfl) (nfs K (List.mem_of_getElem? (i := 52) rfl)) (List.mem_of_getElem? (i := 52) rfl) (List.mem_of_getElem? (i := 51) rfl) (List.mem_of_getElem? (i := 53) rfl) (List.mem_of_getElem? (i := 3) rfl) (by decide) (m_conN l Z a0 hw n0 h23 aPAESE (18 : Int32) (NPAESE.2.ext X23.2) (NPAESE.1.ext X23.2) (by decide)) (NPAESE.1.ext X23.2) (by decide) (by decide) rfl (lenOf pd_1 rfl) rfl (Nat.le_of_ble_eq_true rfl) at_198 rfl (by decide) (by decide) ?_
    rintro _ _ ⟨rfl, rfl⟩
    show Rn w l _ n0 _ 201 #[.val (.int p1), .val (.ref b1), .val (.int (18 : Int32)), .val (.ref aPAESE), .val (.int (0 : Int32)), .unset] [(.int (0 : Int32))] h23 1 22
    refine Rn.istore K (q := 203) (Ls' := #[.val (.int p1), .val (.ref b1), .val (.int (18 : Int32)), .val (.ref aPAESE), .val (.int (0 : Int32)), .val (.int (0 : Int32))]) at_201 rfl rfl ?_
    refine Rn.iload K (q := 205) at_203 rfl rfl ?_
    refine Rn.iload K (q := 207) at_205 rfl rfl ?_
    refine Rn.icY K (q := 212) at_207 (XT.ii_eq_t rfl) (by decide) (by decide) ?_
    refine Rn.iload K (q := 214) at_212 rfl rfl ?_
    refine Rn.ifY K (q := 226) at_214 (XT.i0_eq_t rfl) (by decide) (by decide) ?_
    refine Rn.iconst K (q := 227) (1 : Int32) at_226 rfl rfl ?_
    exact Rn.retN K .boolean rfl (by simp) at_227 (by decide) (by decide) rfl
  · obtain rfl := own_lit (v := (19 : Int32)) hk (by decide)
    refine Rn.istoreN K (q := 162) (Ls' := #[.val (.int p1), .val (.ref b1), .val (.int (19 : Int32)), .unset, .unset, .unset]) at_161 rfl rfl ?_
    refine Rn.aloadN K (q := 163) at_162 rfl rfl rfl ?_
    refine Rn.iloadN K (q := 164) at_163 rfl rfl ?_
    refine Rn.aaload K (q := 165) (v := .ref aGEOMETRIA) A23 rfl (by decide) rfl at_164 rfl ?_
    refine Rn.astoreN K (q := 166) (Ls' := #[.val (.int p1), .val (.ref b1), .val (.int (19 : Int32)), .val (.ref aGEOMETRIA), .unset, .unset]) at_165 rfl rfl rfl ?_
    refine Rn.iloadN K (q := 167) at_166 rfl rfl ?_
    refine Rn.bipush K (q := 169) (9 : Int32) at_167 rfl rfl ?_
    refine Rn.icN K (q := 172) at_169 (XT.ii_eq_f (by decide)) rfl ?_
    refine Rn.iloadN K (q := 173) at_172 rfl rfl ?_
    refine Rn.bipush K (q := 175) (10 : Int32) at_173 rfl rfl ?_
    refine Rn.icN K (q := 178) at_175 (XT.ii_eq_f (by decide)) rfl ?_
    refine Rn.iloadN K (q := 179) at_178 rfl rfl ?_
    refine Rn.bipush K (q := 181) (11 : Int32) at_179 rfl rfl ?_
    refine Rn.icN K (q := 184) at_181 (XT.ii_eq_f (by decide)) rfl ?_
    refine Rn.iloadN K (q := 185) at_184 rfl rfl ?_
    refine Rn.bipush K (q := 187) (21 : Int32) at_185 rfl rfl ?_
    refine Rn.icY K (q := 194) at_187 (XT.ii_ne_t (by decide)) (by decide) (by decide) ?_
    refine Rn.iconst K (q := 195) (0 : Int32) at_194 rfl rfl ?_
    refine Rn.istore K (q := 197) (Ls' := #[.val (.int p1), .val (.ref b1), .val (.int (19 : Int32)), .val (.ref aGEOMETRIA), .val (.int (0 : Int32)), .unset]) at_195 rfl rfl ?_
    refine Rn.aloadN K (q := 198) at_197 rfl rfl rfl ?_
    refine Rn.virt K (q := 201) (W := 0) (y := (⟨"com/example/intreccio/intreccio/model/IpacClass", "isConcept", "()Z"⟩ : MethodName)) (z := (⟨"com/example/intreccio/intreccio/model/IpacClass", "isConcept", "()Z"⟩ : MethodName)) (b := aGEOMETRIA) (argsL := []) (rest := []) (List.mem_of_getElem? (i := 49) rfl) (List.mem_of_getElem? (i := 50) rfl) (nfs K (List.mem_of_getElem? (i := 52) rfl)) (List.mem_of_getElem? (i := 52) rfl) (List.mem_of_getElem? (i := 51) rfl) (List.mem_of_getElem? (i := 53) rfl) (List.mem_of_getElem? (i := 3) rfl) (by decide) (m_conN l Z a0 hw n0 h23 aGEOMETRIA (19 : Int32) (NGEOMETRIA.2.ext X23.2) (NGEOMETRIA.1.ext X23.2) (by decide)) (NGEOMETRIA.1.ext X23.2) (by decide) (by decide) rfl (lenOf pd_1 rfl) rfl (Nat.le_of_ble_eq_true rfl) at_198 rfl (by decide) (by decide) ?_
    rintro _ _ ⟨rfl, rfl⟩
    show Rn w l _ n0 _ 201 #[.val (.int p1), .val (.ref b1), .val (.int (19 : Int32)), .val (.ref aGEOMETRIA), .val (.int (0 : Int32)), .unset] [(.int (0 : Int32))] h23 1 22
    refine Rn.istore K (q := 203) (Ls' := #[.val (.int p1), .val (.ref b1), .val (.int (19 : Int32)), .val (.ref aGEOMETRIA), .val (.int (0 : Int32)), .val (.int (0 : Int32))]) at_201 rfl rfl ?_
    refine Rn.iload K (q := 205) at_203 rfl rfl ?_
    refine Rn.iload K (q := 207) at_205 rfl rfl ?_
    refine Rn.icY K (q := 212) at_207 (XT.ii_eq_t rfl) (by decide) (by decide) ?_
    refine Rn.iload K (q := 214) at_212 rfl rfl ?_
    refine Rn.ifY K (q := 226) at_214 (XT.i0_eq_t rfl) (by decide) (by decide) ?_
    refine Rn.iconst K (q := 227) (1 : Int32) at_226 rfl rfl ?_
    exact Rn.retN K .boolean rfl (by simp) at_227 (by decide) (by decide) rfl
  · obtain rfl := own_lit (v := (20 : Int32)) hk (by decide)
    refine Rn.istoreN K (q := 162) (Ls' := #[.val (.int p1), .val (.ref b1), .val (.int (20 : Int32)), .unset, .unset, .unset]) at_161 rfl rfl ?_
    refine Rn.aloadN K (q := 163) at_162 rfl rfl rfl ?_
    refine Rn.iloadN K (q := 164) at_163 rfl rfl ?_
    refine Rn.aaload K (q := 165) (v := .ref aSOGGETTO) A23 rfl (by decide) rfl at_164 rfl ?_
    refine Rn.astoreN K (q := 166) (Ls' := #[.val (.int p1), .val (.ref b1), .val (.int (20 : Int32)), .val (.ref aSOGGETTO), .unset, .unset]) at_165 rfl rfl rfl ?_
    refine Rn.iloadN K (q := 167) at_166 rfl rfl ?_
    refine Rn.bipush K (q := 169) (9 : Int32) at_167 rfl rfl ?_
    refine Rn.icN K (q := 172) at_169 (XT.ii_eq_f (by decide)) rfl ?_
    refine Rn.iloadN K (q := 173) at_172 rfl rfl ?_
    refine Rn.bipush K (q := 175) (10 : Int32) at_173 rfl rfl ?_
    refine Rn.icN K (q := 178) at_175 (XT.ii_eq_f (by decide)) rfl ?_
    refine Rn.iloadN K (q := 179) at_178 rfl rfl ?_
    refine Rn.bipush K (q := 181) (11 : Int32) at_179 rfl rfl ?_
    refine Rn.icN K (q := 184) at_181 (XT.ii_eq_f (by decide)) rfl ?_
    refine Rn.iloadN K (q := 185) at_184 rfl rfl ?_
    refine Rn.bipush K (q := 187) (21 : Int32) at_185 rfl rfl ?_
    refine Rn.icY K (q := 194) at_187 (XT.ii_ne_t (by decide)) (by decide) (by decide) ?_
    refine Rn.iconst K (q := 195) (0 : Int32) at_194 rfl rfl ?_
    refine Rn.istore K (q := 197) (Ls' := #[.val (.int p1), .val (.ref b1), .val (.int (20 : Int32)), .val (.ref aSOGGETTO), .val (.int (0 : Int32)), .unset]) at_195 rfl rfl ?_
    refine Rn.aloadN K (q := 198) at_197 rfl rfl rfl ?_
    refine Rn.virt K (q := 201) (W := 0) (y := (⟨"com/example/intreccio/intreccio/model/IpacClass", "isConcept", "()Z"⟩ : MethodName)) (z := (⟨"com/example/intreccio/intreccio/model/IpacClass", "isConcept", "()Z"⟩ : MethodName)) (b := aSOGGETTO) (argsL := []) (rest := []) (List.mem_of_getElem? (i := 49) rfl) (List.mem_of_getElem? (i := 50) rfl) (nfs K (List.mem_of_getElem? (i := 52) rfl)) (List.mem_of_getElem? (i := 52) rfl) (List.mem_of_getElem? (i := 51) rfl) (List.mem_of_getElem? (i := 53) rfl) (List.mem_of_getElem? (i := 3) rfl) (by decide) (m_conN l Z a0 hw n0 h23 aSOGGETTO (20 : Int32) (NSOGGETTO.2.ext X23.2) (NSOGGETTO.1.ext X23.2) (by decide)) (NSOGGETTO.1.ext X23.2) (by decide) (by decide) rfl (lenOf pd_1 rfl) rfl (Nat.le_of_ble_eq_true rfl) at_198 rfl (by decide) (by decide) ?_
    rintro _ _ ⟨rfl, rfl⟩
    show Rn w l _ n0 _ 201 #[.val (.int p1), .val (.ref b1), .val (.int (20 : Int32)), .val (.ref aSOGGETTO), .val (.int (0 : Int32)), .unset] [(.int (0 : Int32))] h23 1 22
    refine Rn.istore K (q := 203) (Ls' := #[.val (.int p1), .val (.ref b1), .val (.int (20 : Int32)), .val (.ref aSOGGETTO), .val (.int (0 : Int32)), .val (.int (0 : Int32))]) at_201 rfl rfl ?_
    refine Rn.iload K (q := 205) at_203 rfl rfl ?_
    refine Rn.iload K (q := 207) at_205 rfl rfl ?_
    refine Rn.icY K (q := 212) at_207 (XT.ii_eq_t rfl) (by decide) (by decide) ?_
    refine Rn.iload K (q := 214) at_212 rfl rfl ?_
    refine Rn.ifY K (q := 226) at_214 (XT.i0_eq_t rfl) (by decide) (by decide) ?_
    refine Rn.iconst K (q := 227) (1 : Int32) at_226 rfl rfl ?_
    exact Rn.retN K .boolean rfl (by simp) at_227 (by decide) (by decide) rfl
  · obtain rfl := own_lit (v := (21 : Int32)) hk (by decide)
    refine Rn.istoreN K (q := 162) (Ls' := #[.val (.int p1), .val (.ref b1), .val (.int (21 : Int32)), .unset, .unset, .unset]) at_161 rfl rfl ?_
    refine Rn.aloadN K (q := 163) at_162 rfl rfl rfl ?_
    refine Rn.iloadN K (q := 164) at_163 rfl rfl ?_
    refine Rn.aaload K (q := 165) (v := .ref aCONCETTO) A23 rfl (by decide) rfl at_164 rfl ?_
    refine Rn.astoreN K (q := 166) (Ls' := #[.val (.int p1), .val (.ref b1), .val (.int (21 : Int32)), .val (.ref aCONCETTO), .unset, .unset]) at_165 rfl rfl rfl ?_
    refine Rn.iloadN K (q := 167) at_166 rfl rfl ?_
    refine Rn.bipush K (q := 169) (9 : Int32) at_167 rfl rfl ?_
    refine Rn.icN K (q := 172) at_169 (XT.ii_eq_f (by decide)) rfl ?_
    refine Rn.iloadN K (q := 173) at_172 rfl rfl ?_
    refine Rn.bipush K (q := 175) (10 : Int32) at_173 rfl rfl ?_
    refine Rn.icN K (q := 178) at_175 (XT.ii_eq_f (by decide)) rfl ?_
    refine Rn.iloadN K (q := 179) at_178 rfl rfl ?_
    refine Rn.bipush K (q := 181) (11 : Int32) at_179 rfl rfl ?_
    refine Rn.icN K (q := 184) at_181 (XT.ii_eq_f (by decide)) rfl ?_
    refine Rn.iloadN K (q := 185) at_184 rfl rfl ?_
    refine Rn.bipush K (q := 187) (21 : Int32) at_185 rfl rfl ?_
    refine Rn.icN K (q := 190) at_187 (XT.ii_ne_f rfl) rfl ?_
    refine Rn.iconst K (q := 191) (1 : Int32) at_190 rfl rfl ?_
    refine Rn.goto K (q := 195) at_191 (by decide) (by decide) ?_
    refine Rn.istore K (q := 197) (Ls' := #[.val (.int p1), .val (.ref b1), .val (.int (21 : Int32)), .val (.ref aCONCETTO), .val (.int (1 : Int32)), .unset]) at_195 rfl rfl ?_
    refine Rn.aloadN K (q := 198) at_197 rfl rfl rfl ?_
    refine Rn.virt K (q := 201) (W := 0) (y := (⟨"com/example/intreccio/intreccio/model/IpacClass", "isConcept", "()Z"⟩ : MethodName)) (z := (⟨"com/example/intreccio/intreccio/model/IpacClass", "isConcept", "()Z"⟩ : MethodName)) (b := aCONCETTO) (argsL := []) (rest := []) (List.mem_of_getElem? (i := 49) rfl) (List.mem_of_getElem? (i := 50) rfl) (nfs K (List.mem_of_getElem? (i := 52) rfl)) (List.mem_of_getElem? (i := 52) rfl) (List.mem_of_getElem? (i := 51) rfl) (List.mem_of_getElem? (i := 53) rfl) (List.mem_of_getElem? (i := 3) rfl) (by decide) (m_conY l Z a0 hw n0 h23 aCONCETTO (21 : Int32) (NCONCETTO.2.ext X23.2) (NCONCETTO.1.ext X23.2) (by decide)) (NCONCETTO.1.ext X23.2) (by decide) (by decide) rfl (lenOf pd_1 rfl) rfl (Nat.le_of_ble_eq_true rfl) at_198 rfl (by decide) (by decide) ?_
    rintro _ _ ⟨rfl, rfl⟩
    show Rn w l _ n0 _ 201 #[.val (.int p1), .val (.ref b1), .val (.int (21 : Int32)), .val (.ref aCONCETTO), .val (.int (1 : Int32)), .unset] [(.int (1 : Int32))] h23 1 22
    refine Rn.istore K (q := 203) (Ls' := #[.val (.int p1), .val (.ref b1), .val (.int (21 : Int32)), .val (.ref aCONCETTO), .val (.int (1 : Int32)), .val (.int (1 : Int32))]) at_201 rfl rfl ?_
    refine Rn.iload K (q := 205) at_203 rfl rfl ?_
    refine Rn.iload K (q := 207) at_205 rfl rfl ?_
    refine Rn.icY K (q := 212) at_207 (XT.ii_eq_t rfl) (by decide) (by decide) ?_
    refine Rn.iload K (q := 214) at_212 rfl rfl ?_
    refine Rn.ifN K (q := 217) at_214 (XT.i0_eq_f (by decide)) rfl ?_
    refine Rn.aloadN K (q := 218) at_217 rfl rfl rfl ?_
    refine Rn.virt K (q := 221) (W := 0) (y := (⟨"com/example/intreccio/intreccio/model/IpacClass", "isAgent", "()Z"⟩ : MethodName)) (z := (⟨"com/example/intreccio/intreccio/model/IpacClass", "isAgent", "()Z"⟩ : MethodName)) (b := aCONCETTO) (argsL := []) (rest := []) (List.mem_of_getElem? (i := 63) rfl) (List.mem_of_getElem? (i := 64) rfl) (nfs K (List.mem_of_getElem? (i := 66) rfl)) (List.mem_of_getElem? (i := 66) rfl) (List.mem_of_getElem? (i := 65) rfl) (List.mem_of_getElem? (i := 67) rfl) (List.mem_of_getElem? (i := 3) rfl) (by decide) (m_agN l Z a0 hw n0 h23 aCONCETTO (21 : Int32) (NCONCETTO.2.ext X23.2) (NCONCETTO.1.ext X23.2) (by decide)) (NCONCETTO.1.ext X23.2) (by decide) (by decide) rfl (lenOf pd_1 rfl) rfl (Nat.le_of_ble_eq_true rfl) at_218 rfl (by decide) (by decide) ?_
    rintro _ _ ⟨rfl, rfl⟩
    show Rn w l _ n0 _ 221 #[.val (.int p1), .val (.ref b1), .val (.int (21 : Int32)), .val (.ref aCONCETTO), .val (.int (1 : Int32)), .val (.int (1 : Int32))] [(.int (0 : Int32))] h23 1 22
    refine Rn.ifY K (q := 226) at_221 (XT.i0_eq_t rfl) (by decide) (by decide) ?_
    refine Rn.iconst K (q := 227) (1 : Int32) at_226 rfl rfl ?_
    exact Rn.retN K .boolean rfl (by simp) at_227 (by decide) (by decide) rfl
set_option maxRecDepth 65536 in
set_option maxHeartbeats 40000000 in
theorem comes_1 {Post : Tables → Env → Array Value → State → Outcome → State → Prop} (hpost : ∀ tb e args s v u, (limb_1_1.after args s (.returned v) u = true ∧ limb_1_2.after args s (.returned v) u = true ∧ True) → FrameEnd s (.returned v) u (Jvm.fieldLocs frame_1_writes args s ++ Jvm.arrayLocs frame_1_arrays args s ++ Jvm.staticLocs frame_1_statics s) 16 128 → Post tb e args s (.returned v) u) :
    ArmFor flags0 classFile x code maxLocals ret World_1 tables_1 room_1 Calls_1 rest_1 Pre_1 Post := by
  intro l hfl _ _ p e ha hc hk s m args below hf hA hF happ hP
  obtain ⟨hcalls, hrest, hpre⟩ := hP
  obtain ⟨-, -, -, hnamed, -, -, -, hat⟩ := (Spec.applies_iff hf).mp happ
  obtain ⟨hg, hn⟩ := and_e (Cond.before_iff.mp (show (Jvm.Cond.and given_1 narrow_1).before args s = true from hpre))
  obtain ⟨hcnt, hgs0⟩ := and_e hg
  obtain ⟨w0, rfl⟩ : ∃ w0 : Value, args = #[w0] := by
    have hs : args.size = 1 := by simpa [Cond.value, given_1] using hcnt
    obtain ⟨L⟩ := args
    match L, hs with
    | [w0], _ => exact ⟨w0, rfl⟩
  have hw := fun d (hd : d ∈ tables_1) => atoms_spec (ws := Jvm.Cond.code x code maxLocals ret :: tables_1) hat d (List.mem_cons_of_mem _ hd)
  have hfit : Fit s := fun {y c} hc i hi => by
    obtain ⟨ha, rfl⟩ := Array.getElem?_eq_some_iff.mp hc
    have q := List.all_eq_true.mp ((Array.all_eq_true_iff_forall_mem.mp hF) _ (Array.getElem_mem ha)) i (List.mem_range.mpr hi)
    simpa [Array.getElem?_eq_getElem hi] using q
  obtain ⟨i0, ei0⟩ := is_v hgs0
  obtain rfl : w0 = (.int i0) := Option.some.inj ei0
  obtain ⟨nk0, nr0⟩ := and_e hn
  obtain ⟨nk1, nr1⟩ := and_e nr0
  obtain ⟨nk2, nr2⟩ := and_e nr1
  obtain ⟨nk3, nr3⟩ := and_e nr2
  obtain ⟨nk4, nr4⟩ := and_e nr3
  obtain ⟨nk5, nr5⟩ := and_e nr4
  obtain ⟨nk6, nr6⟩ := and_e nr5
  obtain ⟨nk7, nr7⟩ := and_e nr6
  obtain ⟨nk8, nr8⟩ := and_e nr7
  obtain ⟨nk9, nr9⟩ := and_e nr8
  obtain ⟨nk10, nr10⟩ := and_e nr9
  obtain ⟨nk11, nr11⟩ := and_e nr10
  obtain ⟨nk12, nr12⟩ := and_e nr11
  obtain ⟨nk13, nr13⟩ := and_e nr12
  obtain ⟨nk14, nr14⟩ := and_e nr13
  obtain ⟨nk15, nr15⟩ := and_e nr14
  obtain ⟨nk16, nr16⟩ := and_e nr15
  obtain ⟨nk17, nr17⟩ := and_e nr16
  obtain ⟨nk18, nr18⟩ := and_e nr17
  obtain ⟨nk19, nr19⟩ := and_e nr18
  obtain ⟨nk20, nr20⟩ := and_e nr19
  obtain ⟨nk21, nr21⟩ := and_e nr20
  obtain ⟨nk22, nr22⟩ := and_e nr21
  obtain ⟨nk23, nr23⟩ := and_e nr22
  obtain ⟨nk24, nr24⟩ := and_e nr23
  obtain ⟨nk25, nr25⟩ := and_e nr24
  obtain ⟨nk26, nr26⟩ := and_e nr25
  obtain ⟨nk27, nr27⟩ := and_e nr26
  obtain ⟨nk28, nr28⟩ := and_e nr27
  obtain ⟨nk29, nr29⟩ := and_e nr28
  obtain ⟨nk30, nr30⟩ := and_e nr29
  obtain ⟨nk31, nr31⟩ := and_e nr30
  obtain ⟨nk32, nr32⟩ := and_e nr31
  obtain ⟨nk33, nr33⟩ := and_e nr32
  obtain ⟨nk34, nr34⟩ := and_e nr33
  obtain ⟨nk35, nr35⟩ := and_e nr34
  obtain ⟨nk36, nr36⟩ := and_e nr35
  obtain ⟨nk37, nr37⟩ := and_e nr36
  obtain ⟨nk38, nr38⟩ := and_e nr37
  obtain ⟨nk39, nr39⟩ := and_e nr38
  obtain ⟨nk40, nr40⟩ := and_e nr39
  obtain ⟨nk41, nr41⟩ := and_e nr40
  obtain ⟨nk42, nr42⟩ := and_e nr41
  have nk43 := nr42
  obtain ⟨aENTITA_CULTURALE, vENTITA_CULTURALE⟩ := exa_v nk0
  have EENTITA_CULTURALE := Exa.start vENTITA_CULTURALE nk0
  have SENTITA_CULTURALE := Sta.start vENTITA_CULTURALE (Or.inr ⟨hw _ (List.mem_of_getElem? (i := 3) rfl), hw _ (List.mem_of_getElem? (i := 4) rfl)⟩)
  obtain ⟨aEVENTO, vEVENTO⟩ := exa_v nk1
  have EEVENTO := Exa.start vEVENTO nk1
  have SEVENTO := Sta.start vEVENTO (Or.inr ⟨hw _ (List.mem_of_getElem? (i := 3) rfl), hw _ (List.mem_of_getElem? (i := 7) rfl)⟩)
  obtain ⟨aPERSONA, vPERSONA⟩ := exa_v nk2
  have EPERSONA := Exa.start vPERSONA nk2
  have SPERSONA := Sta.start vPERSONA (Or.inr ⟨hw _ (List.mem_of_getElem? (i := 3) rfl), hw _ (List.mem_of_getElem? (i := 9) rfl)⟩)
  obtain ⟨aORGANIZZAZIONE, vORGANIZZAZIONE⟩ := exa_v nk3
  have EORGANIZZAZIONE := Exa.start vORGANIZZAZIONE nk3
  have SORGANIZZAZIONE := Sta.start vORGANIZZAZIONE (Or.inr ⟨hw _ (List.mem_of_getElem? (i := 3) rfl), hw _ (List.mem_of_getElem? (i := 11) rfl)⟩)
  obtain ⟨aFAMIGLIA, vFAMIGLIA⟩ := exa_v nk4
  have EFAMIGLIA := Exa.start vFAMIGLIA nk4
  have SFAMIGLIA := Sta.start vFAMIGLIA (Or.inr ⟨hw _ (List.mem_of_getElem? (i := 3) rfl), hw _ (List.mem_of_getElem? (i := 13) rfl)⟩)
  obtain ⟨aNOME, vNOME⟩ := exa_v nk5
  have ENOME := Exa.start vNOME nk5
  have SNOME := Sta.start vNOME (Or.inr ⟨hw _ (List.mem_of_getElem? (i := 3) rfl), hw _ (List.mem_of_getElem? (i := 15) rfl)⟩)
  obtain ⟨aIDENTIFICATIVO, vIDENTIFICATIVO⟩ := exa_v nk6
  have EIDENTIFICATIVO := Exa.start vIDENTIFICATIVO nk6
  have SIDENTIFICATIVO := Sta.start vIDENTIFICATIVO (Or.inr ⟨hw _ (List.mem_of_getElem? (i := 3) rfl), hw _ (List.mem_of_getElem? (i := 17) rfl)⟩)
  obtain ⟨aPERIODO_DI_TEMPO, vPERIODO_DI_TEMPO⟩ := exa_v nk7
  have EPERIODO_DI_TEMPO := Exa.start vPERIODO_DI_TEMPO nk7
  have SPERIODO_DI_TEMPO := Sta.start vPERIODO_DI_TEMPO (Or.inr ⟨hw _ (List.mem_of_getElem? (i := 3) rfl), hw _ (List.mem_of_getElem? (i := 19) rfl)⟩)
  obtain ⟨aCOINVOLGIMENTO, vCOINVOLGIMENTO⟩ := exa_v nk8
  have ECOINVOLGIMENTO := Exa.start vCOINVOLGIMENTO nk8
  have SCOINVOLGIMENTO := Sta.start vCOINVOLGIMENTO (Or.inr ⟨hw _ (List.mem_of_getElem? (i := 3) rfl), hw _ (List.mem_of_getElem? (i := 21) rfl)⟩)
  obtain ⟨aTIPOLOGIA, vTIPOLOGIA⟩ := exa_v nk9
  have ETIPOLOGIA := Exa.start vTIPOLOGIA nk9
  have STIPOLOGIA := Sta.start vTIPOLOGIA (Or.inr ⟨hw _ (List.mem_of_getElem? (i := 3) rfl), hw _ (List.mem_of_getElem? (i := 23) rfl)⟩)
  obtain ⟨aRUOLO, vRUOLO⟩ := exa_v nk10
  have ERUOLO := Exa.start vRUOLO nk10
  have SRUOLO := Sta.start vRUOLO (Or.inr ⟨hw _ (List.mem_of_getElem? (i := 3) rfl), hw _ (List.mem_of_getElem? (i := 25) rfl)⟩)
  obtain ⟨aMOTIVO_ATTRIBUZIONE, vMOTIVO_ATTRIBUZIONE⟩ := exa_v nk11
  have EMOTIVO_ATTRIBUZIONE := Exa.start vMOTIVO_ATTRIBUZIONE nk11
  have SMOTIVO_ATTRIBUZIONE := Sta.start vMOTIVO_ATTRIBUZIONE (Or.inr ⟨hw _ (List.mem_of_getElem? (i := 3) rfl), hw _ (List.mem_of_getElem? (i := 27) rfl)⟩)
  obtain ⟨aLUOGO_FISICO, vLUOGO_FISICO⟩ := exa_v nk12
  have ELUOGO_FISICO := Exa.start vLUOGO_FISICO nk12
  have SLUOGO_FISICO := Sta.start vLUOGO_FISICO (Or.inr ⟨hw _ (List.mem_of_getElem? (i := 3) rfl), hw _ (List.mem_of_getElem? (i := 29) rfl)⟩)
  obtain ⟨aCONTENITORE_FISICO, vCONTENITORE_FISICO⟩ := exa_v nk13
  have ECONTENITORE_FISICO := Exa.start vCONTENITORE_FISICO nk13
  have SCONTENITORE_FISICO := Sta.start vCONTENITORE_FISICO (Or.inr ⟨hw _ (List.mem_of_getElem? (i := 3) rfl), hw _ (List.mem_of_getElem? (i := 31) rfl)⟩)
  obtain ⟨aINDIRIZZO, vINDIRIZZO⟩ := exa_v nk14
  have EINDIRIZZO := Exa.start vINDIRIZZO nk14
  have SINDIRIZZO := Sta.start vINDIRIZZO (Or.inr ⟨hw _ (List.mem_of_getElem? (i := 3) rfl), hw _ (List.mem_of_getElem? (i := 33) rfl)⟩)
  obtain ⟨aCITTA, vCITTA⟩ := exa_v nk15
  have ECITTA := Exa.start vCITTA nk15
  have SCITTA := Sta.start vCITTA (Or.inr ⟨hw _ (List.mem_of_getElem? (i := 3) rfl), hw _ (List.mem_of_getElem? (i := 35) rfl)⟩)
  obtain ⟨aPROVINCIA, vPROVINCIA⟩ := exa_v nk16
  have EPROVINCIA := Exa.start vPROVINCIA nk16
  have SPROVINCIA := Sta.start vPROVINCIA (Or.inr ⟨hw _ (List.mem_of_getElem? (i := 3) rfl), hw _ (List.mem_of_getElem? (i := 37) rfl)⟩)
  obtain ⟨aREGIONE, vREGIONE⟩ := exa_v nk17
  have EREGIONE := Exa.start vREGIONE nk17
  have SREGIONE := Sta.start vREGIONE (Or.inr ⟨hw _ (List.mem_of_getElem? (i := 3) rfl), hw _ (List.mem_of_getElem? (i := 39) rfl)⟩)
  obtain ⟨aPAESE, vPAESE⟩ := exa_v nk18
  have EPAESE := Exa.start vPAESE nk18
  have SPAESE := Sta.start vPAESE (Or.inr ⟨hw _ (List.mem_of_getElem? (i := 3) rfl), hw _ (List.mem_of_getElem? (i := 41) rfl)⟩)
  obtain ⟨aGEOMETRIA, vGEOMETRIA⟩ := exa_v nk19
  have EGEOMETRIA := Exa.start vGEOMETRIA nk19
  have SGEOMETRIA := Sta.start vGEOMETRIA (Or.inr ⟨hw _ (List.mem_of_getElem? (i := 3) rfl), hw _ (List.mem_of_getElem? (i := 43) rfl)⟩)
  obtain ⟨aSOGGETTO, vSOGGETTO⟩ := exa_v nk20
  have ESOGGETTO := Exa.start vSOGGETTO nk20
  have SSOGGETTO := Sta.start vSOGGETTO (Or.inr ⟨hw _ (List.mem_of_getElem? (i := 3) rfl), hw _ (List.mem_of_getElem? (i := 45) rfl)⟩)
  obtain ⟨aCONCETTO, vCONCETTO⟩ := exa_v nk21
  have ECONCETTO := Exa.start vCONCETTO nk21
  have SCONCETTO := Sta.start vCONCETTO (Or.inr ⟨hw _ (List.mem_of_getElem? (i := 3) rfl), hw _ (List.mem_of_getElem? (i := 47) rfl)⟩)
  have OENTITA_CULTURALE := own_ord vENTITA_CULTURALE nk22
  have OORGANIZZAZIONE := own_ord vORGANIZZAZIONE nk23
  have OPERIODO_DI_TEMPO := own_ord vPERIODO_DI_TEMPO nk24
  have OCOINVOLGIMENTO := own_ord vCOINVOLGIMENTO nk25
  have OPERSONA := own_ord vPERSONA nk26
  have OMOTIVO_ATTRIBUZIONE := own_ord vMOTIVO_ATTRIBUZIONE nk27
  have ORUOLO := own_ord vRUOLO nk28
  have OEVENTO := own_ord vEVENTO nk29
  have OTIPOLOGIA := own_ord vTIPOLOGIA nk30
  have ONOME := own_ord vNOME nk31
  have OPROVINCIA := own_ord vPROVINCIA nk32
  have OIDENTIFICATIVO := own_ord vIDENTIFICATIVO nk33
  have OGEOMETRIA := own_ord vGEOMETRIA nk34
  have OPAESE := own_ord vPAESE nk35
  have OCITTA := own_ord vCITTA nk36
  have OFAMIGLIA := own_ord vFAMIGLIA nk37
  have OCONCETTO := own_ord vCONCETTO nk38
  have OINDIRIZZO := own_ord vINDIRIZZO nk39
  have OLUOGO_FISICO := own_ord vLUOGO_FISICO nk40
  have OCONTENITORE_FISICO := own_ord vCONTENITORE_FISICO nk41
  have OREGIONE := own_ord vREGIONE nk42
  have OSOGGETTO := own_ord vSOGGETTO nk43
  obtain ⟨n, o, h1, h2, h3, _, L, rfl, ⟨N, rfl⟩, hq⟩ := m_law l s _ hw s.heap.size s.heap i0 aENTITA_CULTURALE aEVENTO aPERSONA aORGANIZZAZIONE aFAMIGLIA aNOME aIDENTIFICATIVO aPERIODO_DI_TEMPO aCOINVOLGIMENTO aTIPOLOGIA aRUOLO aMOTIVO_ATTRIBUZIONE aLUOGO_FISICO aCONTENITORE_FISICO aINDIRIZZO aCITTA aPROVINCIA aREGIONE aPAESE aGEOMETRIA aSOGGETTO aCONCETTO (Old.start s) SENTITA_CULTURALE SEVENTO SPERSONA SORGANIZZAZIONE SFAMIGLIA SNOME SIDENTIFICATIVO SPERIODO_DI_TEMPO SCOINVOLGIMENTO STIPOLOGIA SRUOLO SMOTIVO_ATTRIBUZIONE SLUOGO_FISICO SCONTENITORE_FISICO SINDIRIZZO SCITTA SPROVINCIA SREGIONE SPAESE SGEOMETRIA SSOGGETTO SCONCETTO ⟨EENTITA_CULTURALE, OENTITA_CULTURALE⟩ ⟨EEVENTO, OEVENTO⟩ ⟨EPERSONA, OPERSONA⟩ ⟨EORGANIZZAZIONE, OORGANIZZAZIONE⟩ ⟨EFAMIGLIA, OFAMIGLIA⟩ ⟨ENOME, ONOME⟩ ⟨EIDENTIFICATIVO, OIDENTIFICATIVO⟩ ⟨EPERIODO_DI_TEMPO, OPERIODO_DI_TEMPO⟩ ⟨ECOINVOLGIMENTO, OCOINVOLGIMENTO⟩ ⟨ETIPOLOGIA, OTIPOLOGIA⟩ ⟨ERUOLO, ORUOLO⟩ ⟨EMOTIVO_ATTRIBUZIONE, OMOTIVO_ATTRIBUZIONE⟩ ⟨ELUOGO_FISICO, OLUOGO_FISICO⟩ ⟨ECONTENITORE_FISICO, OCONTENITORE_FISICO⟩ ⟨EINDIRIZZO, OINDIRIZZO⟩ ⟨ECITTA, OCITTA⟩ ⟨EPROVINCIA, OPROVINCIA⟩ ⟨EREGIONE, OREGIONE⟩ ⟨EPAESE, OPAESE⟩ ⟨EGEOMETRIA, OGEOMETRIA⟩ ⟨ESOGGETTO, OSOGGETTO⟩ ⟨ECONCETTO, OCONCETTO⟩ p e ha hc hk s m _ below hf ((Spec.applies_iff_loose hf).mp happ).1 ⟨rfl, State.Warmed39.refl s, rfl⟩ trivial
  refine ⟨n, _, h1, h2, h3, hpost _ _ _ _ _ _ ⟨Cond.after_iff.mpr rfl, Cond.after_iff.mpr (eq_i res_at (Term.int_eval (1)) rfl), trivial⟩ ⟨hq.1, hq.2.1, (hq.2.2.sift fun y hy => Or.inr (N y hy)).mono (by decide) (by decide)⟩⟩
theorem main_1_1 : Claimed_1_1 := comes_1 fun _ _ _ _ _ _ h hF => ⟨h.1, hF⟩
theorem main_1_2 : Claimed_1_2 := comes_1 fun _ _ _ _ _ _ h hF => ⟨h.2.1, hF⟩
end Jvm.Pilot.@@N@@
namespace Jvm.Pilot.@@N@@
open Jvm Jvm.ClassFile Sem Op Lib Jvm.Free Jvm.Stand Jvm.Pilot.@@N@@.Jvm.D
/-! MADE BY PROGRAM (witnessworld.py) out of the Statement's table words and the real class files: 13 classes; the members and pool entries that the words name. The judged class is class 1, her method 1. -/
namespace start1
open Jvm.ClassFile
def u (s : String) : CpInfo := .utf8 (stringToUtf16 s)
/-- a pool by its gaps: so many unusable entries, then the entry; so many at the end -/
def gap : Nat → List CpInfo → List CpInfo
  | 0, r => r
  | n + 1, r => .unusable :: gap n r
def poolList (es : List (Nat × CpInfo)) (last : Nat) : List CpInfo := es.foldr (fun e r => gap e.1 (e.2 :: r)) (gap last [])
def pool (es : List (Nat × CpInfo)) (last : Nat) : Array CpInfo := ⟨poolList es last⟩
def fileOf (pool : Array CpInfo) (this : Nat) (attrs : Array Attribute := #[]) (ms : Array MethodInfo := #[]) (fl : Nat := 33) (sup : Nat := 0) (ifs : Array Nat := #[]) (fds : Array FieldInfo := #[]) : ClassFile where
  minorVersion := 0
  majorVersion := 65
  constantPool := pool
  accessFlags := fl
  thisClass := this
  superClass := sup
  interfaces := ifs
  fields := fds
  methods := ms
  attributes := attrs
def plain (name : String) (sup : Option ClassId) : Class where
  name := name
  kind := .ordinary
  loader := none
  accessFlags := 33
  super := sup
  interfaces := #[]
  cf := none
  fields := #[]
  methods := #[]
  instanceTypes := #[]
  staticTypes := #[]
  resolved := #[]
  callSites := []
  init := .initialized
  statics := none
  mirror := none

def pool0 : Array CpInfo := pool [(5, u "<init>"), (0, u "()V"), (1, .class_ 10), (1, u "java/lang/Object")] 113

def k0m0 : Method := { name := "<init>", desc := "()V", sig := { parameters := [], returnType := none }, accessFlags := 1, code := none }
/-- java/lang/Object -/
def k0 : Class := { plain "java/lang/Object" none with
  accessFlags := 33
  interfaces := #[]
  cf := some (fileOf pool0 8 #[] #[{ accessFlags := 1, nameIndex := 5, descriptorIndex := 6, attributes := #[] }] 33 0 #[] #[])
  fields := #[]
  methods := #[k0m0]
  instanceTypes := #[]
  staticTypes := #[]
  resolved := Array.replicate 124 none
  statics := none }

def pool1 : Array CpInfo := pool [(2, .class_ 4), (1, u "java/lang/Object"), (0, u "<init>"), (0, u "()V"), (0, .class_ 8), (0, u "com/example/intreccio/intreccio/model/IpacClass"), (0, .fieldref 7 10), (0, .nameAndType 11 12), (0, u "ENTITA_CULTURALE"), (0, u "Lcom/example/intreccio/intreccio/model/IpacClass;"), (0, .fieldref 7 14), (0, .nameAndType 15 12), (0, u "EVENTO"), (0, .fieldref 7 17), (0, .nameAndType 18 12), (0, u "PERSONA"), (0, .fieldref 7 20), (0, .nameAndType 21 12), (0, u "ORGANIZZAZIONE"), (0, .fieldref 7 23), (0, .nameAndType 24 12), (0, u "FAMIGLIA"), (0, .fieldref 7 26), (0, .nameAndType 27 12), (0, u "NOME"), (0, .fieldref 7 29), (0, .nameAndType 30 12), (0, u "IDENTIFICATIVO"), (0, .fieldref 7 32), (0, .nameAndType 33 12), (0, u "PERIODO_DI_TEMPO"), (0, .fieldref 7 35), (0, .nameAndType 36 12), (0, u "COINVOLGIMENTO"), (0, .fieldref 7 38), (0, .nameAndType 39 12), (0, u "TIPOLOGIA"), (0, .fieldref 7 41), (0, .nameAndType 42 12), (0, u "RUOLO"), (0, .fieldref 7 44), (0, .nameAndType 45 12), (0, u "MOTIVO_ATTRIBUZIONE"), (0, .fieldref 7 47), (0, .nameAndType 48 12), (0, u "LUOGO_FISICO"), (0, .fieldref 7 50), (0, .nameAndType 51 12), (0, u "CONTENITORE_FISICO"), (0, .fieldref 7 53), (0, .nameAndType 54 12), (0, u "INDIRIZZO"), (0, .fieldref 7 56), (0, .nameAndType 57 12), (0, u "CITTA"), (0, .fieldref 7 59), (0, .nameAndType 60 12), (0, u "PROVINCIA"), (0, .fieldref 7 62), (0, .nameAndType 63 12), (0, u "REGIONE"), (0, .fieldref 7 65), (0, .nameAndType 66 12), (0, u "PAESE"), (0, .fieldref 7 68), (0, .nameAndType 69 12), (0, u "GEOMETRIA"), (0, .fieldref 7 71), (0, .nameAndType 72 12), (0, u "SOGGETTO"), (0, .fieldref 7 74), (0, .nameAndType 75 12), (0, u "CONCETTO"), (0, .integer 2147483647), (0, .methodref 7 78), (0, .nameAndType 79 80), (0, u "isConcept"), (0, u "()Z"), (0, .methodref 7 82), (0, .nameAndType 83 80), (0, u "isAgent"), (0, .class_ 85), (0, u "com/example/intreccio/intreccio/model/IpacClassIsConceptPinLaw"), (2, u "law"), (0, u "(I)Z")] 5

def k1m0 : Method := { name := "<init>", desc := "()V", sig := { parameters := [], returnType := none }, accessFlags := 2, code := none }
def k1c1 : Code := { maxStack := 4, maxLocals := 6, code := code, exceptionTable := #[], attributes := #[] }
def k1m1 : Method := { name := "law", desc := "(I)Z", sig := { parameters := [.int], returnType := some .boolean }, accessFlags := 9, code := some k1c1 }
/-- com/example/intreccio/intreccio/model/IpacClassIsConceptPinLaw -/
def k1 : Class := { plain "com/example/intreccio/intreccio/model/IpacClassIsConceptPinLaw" (some 0) with
  accessFlags := 49
  interfaces := #[]
  cf := some (fileOf pool1 84 #[] #[{ accessFlags := 2, nameIndex := 5, descriptorIndex := 6, attributes := #[] }, { accessFlags := 9, nameIndex := 88, descriptorIndex := 89, attributes := #[] }] 49 2 #[] #[])
  fields := #[]
  methods := #[k1m0, k1m1]
  instanceTypes := #[]
  staticTypes := #[]
  resolved := Array.replicate 95 none
  statics := none }

def pool2 : Array CpInfo := pool [(1, .class_ 2), (0, u "java/lang/constant/Constable"), (0, .class_ 4), (0, u "java/lang/Object")] 6

/-- java/lang/constant/Constable -/
def k2 : Class := { plain "java/lang/constant/Constable" (some 0) with
  accessFlags := 1537
  interfaces := #[]
  cf := some (fileOf pool2 1 #[] #[] 1537 3 #[] #[])
  fields := #[]
  methods := #[]
  instanceTypes := #[]
  staticTypes := #[]
  resolved := Array.replicate 11 none
  statics := none }

def pool3 : Array CpInfo := pool [(1, .class_ 2), (0, u "java/lang/Comparable"), (0, .class_ 4), (0, u "java/lang/Object")] 7

/-- java/lang/Comparable -/
def k3 : Class := { plain "java/lang/Comparable" (some 0) with
  accessFlags := 1537
  interfaces := #[]
  cf := some (fileOf pool3 1 #[] #[] 1537 3 #[] #[])
  fields := #[]
  methods := #[]
  instanceTypes := #[]
  staticTypes := #[]
  resolved := Array.replicate 12 none
  statics := none }

def pool4 : Array CpInfo := pool [(1, .class_ 2), (0, u "java/io/Serializable"), (0, .class_ 4), (0, u "java/lang/Object")] 2

/-- java/io/Serializable -/
def k4 : Class := { plain "java/io/Serializable" (some 0) with
  accessFlags := 1537
  interfaces := #[]
  cf := some (fileOf pool4 1 #[] #[] 1537 3 #[] #[])
  fields := #[]
  methods := #[]
  instanceTypes := #[]
  staticTypes := #[]
  resolved := Array.replicate 7 none
  statics := none }

def pool5 : Array CpInfo := pool [(2, .class_ 4), (1, u "java/lang/Enum"), (0, u "name"), (0, u "Ljava/lang/String;"), (0, .fieldref 2 8), (0, .nameAndType 9 10), (0, u "ordinal"), (0, u "I"), (1, .class_ 14), (1, u "java/lang/Object"), (4, u "hash"), (86, .class_ 108), (1, u "java/lang/Enum$EnumDesc"), (2, .class_ 112), (0, u "java/lang/constant/Constable"), (0, .class_ 114), (0, u "java/lang/Comparable"), (0, .class_ 116), (0, u "java/io/Serializable"), (9, u "()I")] 77

def k5c0 : Code := { maxStack := 1, maxLocals := 1, code := jdk_37_method_2_code, exceptionTable := #[], attributes := #[] }
def k5m0 : Method := { name := "ordinal", desc := "()I", sig := { parameters := [], returnType := some .int }, accessFlags := 17, code := some k5c0 }
/-- java/lang/Enum -/
def k5 : Class := { plain "java/lang/Enum" (some 0) with
  accessFlags := 1057
  interfaces := #[2, 3, 4]
  cf := some (fileOf pool5 2 #[.nestMembers #[106]] #[{ accessFlags := 17, nameIndex := 9, descriptorIndex := 126, attributes := #[] }] 1057 12 #[111, 113, 115] #[{ accessFlags := 18, nameIndex := 5, descriptorIndex := 6, attributes := #[] }, { accessFlags := 18, nameIndex := 9, descriptorIndex := 10, attributes := #[] }, { accessFlags := 2, nameIndex := 19, descriptorIndex := 10, attributes := #[] }])
  fields := #[{ name := "name", type := (.object "java/lang/String"), accessFlags := 18, slot := 0, constantValue := 0 }, { name := "ordinal", type := .int, accessFlags := 18, slot := 1, constantValue := 0 }, { name := "hash", type := .int, accessFlags := 2, slot := 2, constantValue := 0 }]
  methods := #[k5m0]
  instanceTypes := #[(.object "java/lang/String"), .int, .int]
  staticTypes := #[]
  resolved := Array.replicate 204 none
  statics := none }

def pool6 : Array CpInfo := pool [(1, .class_ 2), (0, u "com/example/intreccio/intreccio/model/IpacClass"), (2, u "ENTITA_CULTURALE"), (0, u "Lcom/example/intreccio/intreccio/model/IpacClass;"), (2, u "EVENTO"), (2, u "PERSONA"), (2, u "ORGANIZZAZIONE"), (2, u "FAMIGLIA"), (2, u "NOME"), (2, u "IDENTIFICATIVO"), (2, u "PERIODO_DI_TEMPO"), (2, u "COINVOLGIMENTO"), (2, u "TIPOLOGIA"), (2, u "RUOLO"), (2, u "MOTIVO_ATTRIBUZIONE"), (2, u "LUOGO_FISICO"), (2, u "CONTENITORE_FISICO"), (2, u "INDIRIZZO"), (2, u "CITTA"), (2, u "PROVINCIA"), (2, u "REGIONE"), (2, u "PAESE"), (2, u "GEOMETRIA"), (2, u "SOGGETTO"), (2, u "CONCETTO"), (2, u "$VALUES"), (0, u "[Lcom/example/intreccio/intreccio/model/IpacClass;"), (6, .class_ 82), (1, u "java/lang/Enum"), (8, u "localName"), (0, u "Ljava/lang/String;"), (2, u "nameAttribute"), (0, u "Lcom/example/intreccio/intreccio/model/IpacProperty;"), (8, u "isAgent"), (0, u "()Z"), (8, .methodref 1 116), (0, .nameAndType 117 118), (0, u "ordinal"), (0, u "()I"), (118, u "isConcept")] 6

def k6c0 : Code := { maxStack := 1, maxLocals := 1, code := prog_66_method_7_code, exceptionTable := #[], attributes := #[] }
def k6m0 : Method := { name := "isAgent", desc := "()Z", sig := { parameters := [], returnType := some .boolean }, accessFlags := 1, code := some k6c0 }
def k6c1 : Code := { maxStack := 1, maxLocals := 1, code := prog_66_method_8_code, exceptionTable := #[], attributes := #[] }
def k6m1 : Method := { name := "isConcept", desc := "()Z", sig := { parameters := [], returnType := some .boolean }, accessFlags := 0, code := some k6c1 }
/-- com/example/intreccio/intreccio/model/IpacClass -/
def k6 : Class := { plain "com/example/intreccio/intreccio/model/IpacClass" (some 5) with
  accessFlags := 16433
  interfaces := #[]
  cf := some (fileOf pool6 1 #[] #[{ accessFlags := 1, nameIndex := 105, descriptorIndex := 106, attributes := #[] }, { accessFlags := 0, nameIndex := 237, descriptorIndex := 106, attributes := #[] }] 16433 80 #[] #[{ accessFlags := 16409, nameIndex := 5, descriptorIndex := 6, attributes := #[] }, { accessFlags := 16409, nameIndex := 9, descriptorIndex := 6, attributes := #[] }, { accessFlags := 16409, nameIndex := 12, descriptorIndex := 6, attributes := #[] }, { accessFlags := 16409, nameIndex := 15, descriptorIndex := 6, attributes := #[] }, { accessFlags := 16409, nameIndex := 18, descriptorIndex := 6, attributes := #[] }, { accessFlags := 16409, nameIndex := 21, descriptorIndex := 6, attributes := #[] }, { accessFlags := 16409, nameIndex := 24, descriptorIndex := 6, attributes := #[] }, { accessFlags := 16409, nameIndex := 27, descriptorIndex := 6, attributes := #[] }, { accessFlags := 16409, nameIndex := 30, descriptorIndex := 6, attributes := #[] }, { accessFlags := 16409, nameIndex := 33, descriptorIndex := 6, attributes := #[] }, { accessFlags := 16409, nameIndex := 36, descriptorIndex := 6, attributes := #[] }, { accessFlags := 16409, nameIndex := 39, descriptorIndex := 6, attributes := #[] }, { accessFlags := 16409, nameIndex := 42, descriptorIndex := 6, attributes := #[] }, { accessFlags := 16409, nameIndex := 45, descriptorIndex := 6, attributes := #[] }, { accessFlags := 16409, nameIndex := 48, descriptorIndex := 6, attributes := #[] }, { accessFlags := 16409, nameIndex := 51, descriptorIndex := 6, attributes := #[] }, { accessFlags := 16409, nameIndex := 54, descriptorIndex := 6, attributes := #[] }, { accessFlags := 16409, nameIndex := 57, descriptorIndex := 6, attributes := #[] }, { accessFlags := 16409, nameIndex := 60, descriptorIndex := 6, attributes := #[] }, { accessFlags := 16409, nameIndex := 63, descriptorIndex := 6, attributes := #[] }, { accessFlags := 16409, nameIndex := 66, descriptorIndex := 6, attributes := #[] }, { accessFlags := 16409, nameIndex := 69, descriptorIndex := 6, attributes := #[] }, { accessFlags := 18, nameIndex := 91, descriptorIndex := 92, attributes := #[] }, { accessFlags := 18, nameIndex := 95, descriptorIndex := 96, attributes := #[] }, { accessFlags := 4122, nameIndex := 72, descriptorIndex := 73, attributes := #[] }])
  fields := #[{ name := "ENTITA_CULTURALE", type := (.object "com/example/intreccio/intreccio/model/IpacClass"), accessFlags := 16409, slot := 0, constantValue := 0 }, { name := "EVENTO", type := (.object "com/example/intreccio/intreccio/model/IpacClass"), accessFlags := 16409, slot := 1, constantValue := 0 }, { name := "PERSONA", type := (.object "com/example/intreccio/intreccio/model/IpacClass"), accessFlags := 16409, slot := 2, constantValue := 0 }, { name := "ORGANIZZAZIONE", type := (.object "com/example/intreccio/intreccio/model/IpacClass"), accessFlags := 16409, slot := 3, constantValue := 0 }, { name := "FAMIGLIA", type := (.object "com/example/intreccio/intreccio/model/IpacClass"), accessFlags := 16409, slot := 4, constantValue := 0 }, { name := "NOME", type := (.object "com/example/intreccio/intreccio/model/IpacClass"), accessFlags := 16409, slot := 5, constantValue := 0 }, { name := "IDENTIFICATIVO", type := (.object "com/example/intreccio/intreccio/model/IpacClass"), accessFlags := 16409, slot := 6, constantValue := 0 }, { name := "PERIODO_DI_TEMPO", type := (.object "com/example/intreccio/intreccio/model/IpacClass"), accessFlags := 16409, slot := 7, constantValue := 0 }, { name := "COINVOLGIMENTO", type := (.object "com/example/intreccio/intreccio/model/IpacClass"), accessFlags := 16409, slot := 8, constantValue := 0 }, { name := "TIPOLOGIA", type := (.object "com/example/intreccio/intreccio/model/IpacClass"), accessFlags := 16409, slot := 9, constantValue := 0 }, { name := "RUOLO", type := (.object "com/example/intreccio/intreccio/model/IpacClass"), accessFlags := 16409, slot := 10, constantValue := 0 }, { name := "MOTIVO_ATTRIBUZIONE", type := (.object "com/example/intreccio/intreccio/model/IpacClass"), accessFlags := 16409, slot := 11, constantValue := 0 }, { name := "LUOGO_FISICO", type := (.object "com/example/intreccio/intreccio/model/IpacClass"), accessFlags := 16409, slot := 12, constantValue := 0 }, { name := "CONTENITORE_FISICO", type := (.object "com/example/intreccio/intreccio/model/IpacClass"), accessFlags := 16409, slot := 13, constantValue := 0 }, { name := "INDIRIZZO", type := (.object "com/example/intreccio/intreccio/model/IpacClass"), accessFlags := 16409, slot := 14, constantValue := 0 }, { name := "CITTA", type := (.object "com/example/intreccio/intreccio/model/IpacClass"), accessFlags := 16409, slot := 15, constantValue := 0 }, { name := "PROVINCIA", type := (.object "com/example/intreccio/intreccio/model/IpacClass"), accessFlags := 16409, slot := 16, constantValue := 0 }, { name := "REGIONE", type := (.object "com/example/intreccio/intreccio/model/IpacClass"), accessFlags := 16409, slot := 17, constantValue := 0 }, { name := "PAESE", type := (.object "com/example/intreccio/intreccio/model/IpacClass"), accessFlags := 16409, slot := 18, constantValue := 0 }, { name := "GEOMETRIA", type := (.object "com/example/intreccio/intreccio/model/IpacClass"), accessFlags := 16409, slot := 19, constantValue := 0 }, { name := "SOGGETTO", type := (.object "com/example/intreccio/intreccio/model/IpacClass"), accessFlags := 16409, slot := 20, constantValue := 0 }, { name := "CONCETTO", type := (.object "com/example/intreccio/intreccio/model/IpacClass"), accessFlags := 16409, slot := 21, constantValue := 0 }, { name := "localName", type := (.object "java/lang/String"), accessFlags := 18, slot := 3, constantValue := 0 }, { name := "nameAttribute", type := (.object "com/example/intreccio/intreccio/model/IpacProperty"), accessFlags := 18, slot := 4, constantValue := 0 }, { name := "$VALUES", type := (.array (.object "com/example/intreccio/intreccio/model/IpacClass")), accessFlags := 4122, slot := 22, constantValue := 0 }]
  methods := #[k6m0, k6m1]
  instanceTypes := #[(.object "java/lang/String"), .int, .int, (.object "java/lang/String"), (.object "com/example/intreccio/intreccio/model/IpacProperty")]
  staticTypes := #[(.object "com/example/intreccio/intreccio/model/IpacClass"), (.object "com/example/intreccio/intreccio/model/IpacClass"), (.object "com/example/intreccio/intreccio/model/IpacClass"), (.object "com/example/intreccio/intreccio/model/IpacClass"), (.object "com/example/intreccio/intreccio/model/IpacClass"), (.object "com/example/intreccio/intreccio/model/IpacClass"), (.object "com/example/intreccio/intreccio/model/IpacClass"), (.object "com/example/intreccio/intreccio/model/IpacClass"), (.object "com/example/intreccio/intreccio/model/IpacClass"), (.object "com/example/intreccio/intreccio/model/IpacClass"), (.object "com/example/intreccio/intreccio/model/IpacClass"), (.object "com/example/intreccio/intreccio/model/IpacClass"), (.object "com/example/intreccio/intreccio/model/IpacClass"), (.object "com/example/intreccio/intreccio/model/IpacClass"), (.object "com/example/intreccio/intreccio/model/IpacClass"), (.object "com/example/intreccio/intreccio/model/IpacClass"), (.object "com/example/intreccio/intreccio/model/IpacClass"), (.object "com/example/intreccio/intreccio/model/IpacClass"), (.object "com/example/intreccio/intreccio/model/IpacClass"), (.object "com/example/intreccio/intreccio/model/IpacClass"), (.object "com/example/intreccio/intreccio/model/IpacClass"), (.object "com/example/intreccio/intreccio/model/IpacClass"), (.array (.object "com/example/intreccio/intreccio/model/IpacClass"))]
  resolved := Array.replicate 244 none
  statics := some 0 }

def pool7 : Array CpInfo := pool [(1, u "java/lang/Cloneable"), (0, .class_ 1), (0, u "java/lang/Object"), (0, .class_ 3)] 3

/-- java/lang/Cloneable -/
def k7 : Class := { plain "java/lang/Cloneable" (some 0) with
  accessFlags := 1537
  interfaces := #[]
  cf := some (fileOf pool7 2 #[] #[] 1537 4 #[] #[])
  fields := #[]
  methods := #[]
  instanceTypes := #[]
  staticTypes := #[]
  resolved := Array.replicate 8 none
  statics := none }

/-- the primitive byte -/
def k8 : Class := { plain "byte" none with kind := .primitive 'B', accessFlags := 0x411 }
/-- [B -/
def k9 : Class := { plain "[B" (some 0) with kind := .array 8 .byte, interfaces := #[7, 4], accessFlags := 1041 }

/-- the primitive int -/
def k10 : Class := { plain "int" none with kind := .primitive 'I', accessFlags := 0x411 }
/-- [I -/
def k11 : Class := { plain "[I" (some 0) with kind := .array 10 .int, interfaces := #[7, 4], accessFlags := 1041 }

/-- [Lcom/example/intreccio/intreccio/model/IpacClass; -/
def k12 : Class := { plain "[Lcom/example/intreccio/intreccio/model/IpacClass;" (some 0) with kind := .array 6 (.object "com/example/intreccio/intreccio/model/IpacClass"), interfaces := #[7, 4], accessFlags := 1041 }

def heap : Heap := #[{ cls := 6, slots := #[.ref 1, .ref 2, .ref 3, .ref 4, .ref 5, .ref 6, .ref 7, .ref 8, .ref 9, .ref 10, .ref 11, .ref 12, .ref 13, .ref 14, .ref 15, .ref 16, .ref 17, .ref 18, .ref 19, .ref 20, .ref 21, .ref 22, .null], vm := .statics 6 },
  { cls := 6, slots := #[.null, .int 0, .int 0, .null, .null], vm := .none },
  { cls := 6, slots := #[.null, .int 1, .int 0, .null, .null], vm := .none },
  { cls := 6, slots := #[.null, .int 2, .int 0, .null, .null], vm := .none },
  { cls := 6, slots := #[.null, .int 3, .int 0, .null, .null], vm := .none },
  { cls := 6, slots := #[.null, .int 4, .int 0, .null, .null], vm := .none },
  { cls := 6, slots := #[.null, .int 5, .int 0, .null, .null], vm := .none },
  { cls := 6, slots := #[.null, .int 6, .int 0, .null, .null], vm := .none },
  { cls := 6, slots := #[.null, .int 7, .int 0, .null, .null], vm := .none },
  { cls := 6, slots := #[.null, .int 8, .int 0, .null, .null], vm := .none },
  { cls := 6, slots := #[.null, .int 9, .int 0, .null, .null], vm := .none },
  { cls := 6, slots := #[.null, .int 10, .int 0, .null, .null], vm := .none },
  { cls := 6, slots := #[.null, .int 11, .int 0, .null, .null], vm := .none },
  { cls := 6, slots := #[.null, .int 12, .int 0, .null, .null], vm := .none },
  { cls := 6, slots := #[.null, .int 13, .int 0, .null, .null], vm := .none },
  { cls := 6, slots := #[.null, .int 14, .int 0, .null, .null], vm := .none },
  { cls := 6, slots := #[.null, .int 15, .int 0, .null, .null], vm := .none },
  { cls := 6, slots := #[.null, .int 16, .int 0, .null, .null], vm := .none },
  { cls := 6, slots := #[.null, .int 17, .int 0, .null, .null], vm := .none },
  { cls := 6, slots := #[.null, .int 18, .int 0, .null, .null], vm := .none },
  { cls := 6, slots := #[.null, .int 19, .int 0, .null, .null], vm := .none },
  { cls := 6, slots := #[.null, .int 20, .int 0, .null, .null], vm := .none },
  { cls := 6, slots := #[.null, .int 21, .int 0, .null, .null], vm := .none }]
def classes : Array Class := #[k0, k1, k2, k3, k4, k5, k6, k7, k8, k9, k10, k11, k12]
def interned : List (Array UInt16 × Addr) := []
def slotsUsed : Nat := 133
def theMethod : MethodId := ⟨1, 1⟩
def args0 : Array Value := #[.int 5]
def aboutOver (below : List Frame) : State where
  vm := { classes := classes, interned := interned.toArray }
  heap := heap
  slotsUsed := slotsUsed
  threads := #[{ frames := .invoking theMethod args0 :: below }]
def below0 : List Frame := [.native { method := ⟨0, 0⟩, args := #[] }]
def about1 : State := aboutOver below0
def p0 : Program := .bare "" "" ""
def e0 : Env := launch0.env 0 0 0
theorem w_frames : about1.frames = Frame.invoking theMethod args0 :: below0 := rfl
set_option maxRecDepth 65536 in
theorem w_args : argsFit about1.vm theMethod args0 = true := by decide +kernel
set_option maxRecDepth 65536 in
theorem w_heap : heapFits about1 = true := by decide +kernel
set_option maxRecDepth 65536 in
theorem w_runnable : about1.curStatus? = some .runnable := by decide +kernel
set_option maxRecDepth 65536 in
theorem w_alone : about1.alone = true := by decide +kernel
set_option maxRecDepth 65536 in
theorem w_named : about1.methodNamed? x = some theMethod := by decide +kernel
set_option maxRecDepth 65536 in
theorem w_hears : about1.hears theMethod below0 = true := by decide +kernel
set_option maxRecDepth 65536 in
theorem w_ripe : about1.ripe theMethod args0 below0 = true := by decide +kernel
theorem w_running : about1.status = .running := rfl
set_option maxRecDepth 65536 in
theorem w_room : about1.hasRoom e0.platform room_1 = true :=
  launch0.hasRoom_least _ room_1 (by decide +kernel) (by decide +kernel) (by decide +kernel) (by decide +kernel) (by decide +kernel) (by decide +kernel)
theorem allAtoms_all (ts : List Jvm.Cond) (a : Array Jvm.Value) (st : Jvm.State) : (allAtoms ts).before a st = ts.all (fun c => c.before a st) := by
  induction ts with
  | nil => rfl
  | cons c t ih =>
    show (Jvm.Cond.and c (allAtoms t)).before a st = _
    rw [Jvm.Cond.before_and, ih, List.all_cons]
def words1 : List Jvm.Cond := Jvm.Cond.code x code maxLocals ret :: tables_1
/-- a 'code' word, met by the world's own term for the bytes: nothing is compared byte by byte -/
theorem code_word {y : MethodName} {bytes : ByteArray} {mx : Nat} {rt : Option FieldType} {a : Array Value} {s : State} {m : MethodId} {meth : Method} {c : Code} (h1 : s.methodNamed? y = some m) (h2 : s.vm.method? m = some meth) (h3 : meth.code = some c) (h4 : c.code = bytes)
    (h5 : (c.maxLocals == mx && c.exceptionTable.isEmpty && decide (c.maxStack ≤ mostOperands) && decide (meth.sig.returnType = rt) && !meth.locks && decide (parseMethodDescriptor y.desc = some meth.sig)) = true) : (Jvm.Cond.code y bytes mx rt).before a s = true := by
  simp only [Bool.and_eq_true, beq_iff_eq, Bool.not_eq_true', decide_eq_true_eq] at h5
  obtain ⟨⟨⟨⟨⟨g1, g2⟩, g3⟩, g4⟩, g5⟩, g6⟩ := h5
  simp [Cond.before, Cond.holds, Cond.value, h1, h2, h3, h4, g1, g2, g3, g4, g5, g6]
def isCode : Jvm.Cond → Bool
  | .code _ _ _ _ => true
  | _ => false
theorem all_split {L : List Jvm.Cond} {P : Jvm.Cond → Bool} (h1 : L.all (fun c => isCode c || P c) = true) (h2 : ∀ c ∈ L.filter isCode, P c = true) : L.all P = true := by
  refine List.all_eq_true.mpr fun c hc => ?_
  have h := List.all_eq_true.mp h1 c hc
  rcases Bool.eq_false_or_eq_true (isCode c) with hi | hi
  · exact h2 c (List.mem_filter.mpr ⟨hc, hi⟩)
  · simpa [hi] using h
set_option maxRecDepth 65536 in
theorem w_c0 : (Jvm.Cond.code x code maxLocals ret).before args0 about1 = true := code_word (m := ⟨1, 1⟩) (meth := k1m1) (c := k1c1) (by decide +kernel) rfl rfl rfl (by decide +kernel)
set_option maxRecDepth 65536 in
theorem w_c1 : (Jvm.Cond.code ({ cls := "com/example/intreccio/intreccio/model/IpacClass", name := "isConcept", desc := "()Z" } : Jvm.MethodName) prog_66_method_8_code (1 : Nat) (Option.some Jvm.ClassFile.FieldType.boolean)).before args0 about1 = true := code_word (m := ⟨6, 1⟩) (meth := k6m1) (c := k6c1) (by decide +kernel) rfl rfl rfl (by decide +kernel)
set_option maxRecDepth 65536 in
theorem w_c2 : (Jvm.Cond.code ({ cls := "java/lang/Enum", name := "ordinal", desc := "()I" } : Jvm.MethodName) jdk_37_method_2_code (1 : Nat) (Option.some Jvm.ClassFile.FieldType.int)).before args0 about1 = true := code_word (m := ⟨5, 0⟩) (meth := k5m0) (c := k5c0) (by decide +kernel) rfl rfl rfl (by decide +kernel)
set_option maxRecDepth 65536 in
theorem w_c3 : (Jvm.Cond.code ({ cls := "com/example/intreccio/intreccio/model/IpacClass", name := "isAgent", desc := "()Z" } : Jvm.MethodName) prog_66_method_7_code (1 : Nat) (Option.some Jvm.ClassFile.FieldType.boolean)).before args0 about1 = true := code_word (m := ⟨6, 0⟩) (meth := k6m0) (c := k6c0) (by decide +kernel) rfl rfl rfl (by decide +kernel)
def codes1 : List Jvm.Cond := [Jvm.Cond.code x code maxLocals ret, Jvm.Cond.code ({ cls := "com/example/intreccio/intreccio/model/IpacClass", name := "isConcept", desc := "()Z" } : Jvm.MethodName) prog_66_method_8_code (1 : Nat) (Option.some Jvm.ClassFile.FieldType.boolean), Jvm.Cond.code ({ cls := "java/lang/Enum", name := "ordinal", desc := "()I" } : Jvm.MethodName) jdk_37_method_2_code (1 : Nat) (Option.some Jvm.ClassFile.FieldType.int), Jvm.Cond.code ({ cls := "com/example/intreccio/intreccio/model/IpacClass", name := "isAgent", desc := "()Z" } : Jvm.MethodName) prog_66_method_7_code (1 : Nat) (Option.some Jvm.ClassFile.FieldType.boolean)]
set_option maxRecDepth 65536 in
theorem codes_eq : words1.filter isCode = codes1 := rfl
theorem w_codes : ∀ c ∈ words1.filter isCode, c.before args0 about1 = true := by
  rw [codes_eq]
  intro c hc
  simp only [codes1, List.mem_cons, List.not_mem_nil, or_false] at hc
  rcases hc with rfl | rfl | rfl | rfl
  · exact w_c0
  · exact w_c1
  · exact w_c2
  · exact w_c3
set_option maxRecDepth 65536 in
theorem w_t1 : (words1.take 24).all (fun c => isCode c || c.before args0 about1) = true := by decide +kernel
set_option maxRecDepth 65536 in
theorem w_t2 : ((words1.drop 24).take 24).all (fun c => isCode c || c.before args0 about1) = true := by decide +kernel
set_option maxRecDepth 65536 in
theorem w_t3 : ((words1.drop 24).drop 24).all (fun c => isCode c || c.before args0 about1) = true := by decide +kernel
theorem w_tables : (allAtoms (Jvm.Cond.code x code maxLocals ret :: tables_1)).before args0 about1 = true := by
  rw [allAtoms_all]
  show words1.all (fun c => c.before args0 about1) = true
  refine all_split ?_ w_codes
  rw [← List.take_append_drop 24 words1, List.all_append, w_t1, ← List.take_append_drop 24 (words1.drop 24), List.all_append, w_t2, w_t3]
  rfl
set_option maxRecDepth 65536 in
theorem w_case : (Jvm.Cond.and given_1 narrow_1).before args0 about1 = true := by decide +kernel
theorem w_applies : (headSpec (Jvm.Cond.code x code maxLocals ret :: tables_1) room_1).applies x e0.platform about1 = true :=
  (Spec.applies_iff w_frames).mpr ⟨w_running, w_runnable, w_alone, w_named, w_hears, w_ripe, w_room, w_tables⟩
theorem atStart : AtStart classFile x code maxLocals ret World_1 tables_1 room_1 Calls_1 rest_1 Pre_1 launch0 p0 e0 about1 theMethod args0 below0 :=
  ⟨lists_1, trivial, launch0.admits_env _ _ _, launch0.least_env, fairChoices_fair.cas, fairChoices_fair.clock, w_frames, w_args, w_heap, w_applies, trivial, trivial, w_case⟩
end start1
theorem witness_1 : WitnessClaimed_1 := ⟨start1.p0, start1.e0, start1.about1, start1.theMethod, start1.args0, start1.below0, start1.atStart⟩
end Jvm.Pilot.@@N@@
